/- The texts of the functions of the spec (printed by a program from the translation). What kmsg's messages say, as data; what is written of data; how data lie in memory. No program in sight but for memory. The statements of AppendTo, one by one. More rules: append of whatever, slices laid out, struct values; guarded regions; regions that draw their order. The loop 'for i := range x' of AppendTo. What AppendTo writes: for every shape of a message. What AppendTo writes: tags, fields, lists, structs; every shape. What AppendTo writes: lists, structs; every shape; the whole function. What AppendTo writes: every shape; the whole function. What kbin's functions that write do. -/
import Derived.Test.YticdohpbambelaaGreatDoorKb00
import Derived.Deep.AppendSrc
import Derived.Great.FillDense
import Derived.OrdersHeld
import Derived.IntWalk
import Derived.Laws.BitsAllLaws
set_option linter.unusedSimpArgs false
set_option linter.unusedVariables false
namespace Go.Km
open Go
def c_sHas (E : Env) : Code :=
 (sq [(rg [(oQ 2 (.box E.tFld (.tmp 0)) 0),
   (oQ 4 (.assign (.const (.bool false))) E.tO)]),
  (rg [(oQ 5 (.fieldAddr E.tFld (.tmp 2) 1) 0),
   (oQ 6 (.load E.tI (.tmp 5)) E.tI),
   (oQ 7 (.move (.tmp 1)) E.tI),
   (oQ 8 (.binOp .leq E.tI (.tmp 6) (.tmp 7) E.tI) E.tO),
   (oQ 9 (.move (.tmp 8)) E.tO),
   ⟨some 10, .fieldAddr E.tFld (.tmp 2) 2, 0, "", #[], some (4, true)⟩,
   ⟨some 11, .load E.tI (.tmp 10), E.tI, "", #[], some (4, true)⟩,
   ⟨some 12, .binOp .lss E.tI (.tmp 11) (.const (.int .i64 0)) E.tI, E.tO, "", #[], some (4, true)⟩,
   ⟨some 13, .move (.tmp 12), E.tO, "", #[], some (4, true)⟩,
   ⟨some 14, .move (.tmp 1), E.tI, "", #[], some (8, false)⟩,
   ⟨some 15, .fieldAddr E.tFld (.tmp 2) 2, 0, "", #[], some (8, false)⟩,
   ⟨some 16, .load E.tI (.tmp 15), E.tI, "", #[], some (8, false)⟩,
   ⟨some 17, .binOp .leq E.tI (.tmp 14) (.tmp 16) E.tI, E.tO, "", #[], some (8, false)⟩,
   ⟨some 18, .pick (.tmp 13) (.const (.bool true)) (.tmp 17), E.tO, "", #[], some (4, true)⟩,
   (oQ 19 (.pick (.tmp 9) (.tmp 18) (.const (.bool false))) E.tO),
   (oQ 4 (.assign (.tmp 19)) E.tO)]),
  .ret])
def c_sNull (E : Env) : Code :=
 (sq [(rg [(oQ 3 (.box E.tFld (.tmp 0)) 0),
   (oQ 5 (.box E.tT (.tmp 2)) 0),
   (oQ 6 (.assign (.const (.bool false))) E.tO)]),
  (rg [(oQ 7 (.fieldAddr E.tT (.tmp 5) 2) 0),
   (oQ 8 (.load E.tO (.tmp 7)) E.tO),
   (oQ 9 (.move (.tmp 8)) E.tO),
   ⟨some 10, .fieldAddr E.tFld (.tmp 3) 3, 0, "", #[], some (2, true)⟩,
   ⟨some 11, .load E.tI (.tmp 10), E.tI, "", #[], some (2, true)⟩,
   ⟨some 12, .binOp .geq E.tI (.tmp 11) (.const (.int .i64 0)) E.tI, E.tO, "", #[], some (2, true)⟩,
   (oQ 13 (.pick (.tmp 9) (.tmp 12) (.const (.bool false))) E.tO),
   (oQ 14 (.move (.tmp 13)) E.tO),
   ⟨some 15, .move (.tmp 1), E.tI, "", #[], some (7, true)⟩,
   ⟨some 16, .fieldAddr E.tFld (.tmp 3) 3, 0, "", #[], some (7, true)⟩,
   ⟨some 17, .load E.tI (.tmp 16), E.tI, "", #[], some (7, true)⟩,
   ⟨some 18, .binOp .geq E.tI (.tmp 15) (.tmp 17) E.tI, E.tO, "", #[], some (7, true)⟩,
   (oQ 19 (.pick (.tmp 14) (.tmp 18) (.const (.bool false))) E.tO),
   (oQ 6 (.assign (.tmp 19)) E.tO)]),
  .ret])
def c_sWhole (E : Env) : Code :=
 (sq [(rg [(oQ 2 (.assign (.const (.slice none 0 0))) E.tB)]),
  (rg [(oQ 3 (.move (.tmp 0)) E.tB),
   (oQ 4 (.move (.tmp 0)) E.tB),
   (oQ 5 (.call { callee := .builtin .len, args := #[(.tmp 4)], argTypes := #[E.tB] }) E.tI),
   (oQ 6 (.call { callee := .builtin .min, args := #[(.tmp 5), (.const (.int .i64 32767))], argTypes := #[E.tI, E.tI] }) E.tI),
   (oQ 7 (.slice E.tB (.tmp 3) none (some (.tmp 6)) none) E.tB),
   (oQ 2 (.assign (.tmp 7)) E.tB)]),
  .ret])
def c_sThings (E : Env) : Code :=
 (sq [(rg [(oQ 2 (.assign (.const (.slice none 0 0))) E.tS)]),
  (rg [(oQ 3 (.move (.tmp 0)) E.tS),
   (oQ 4 (.move (.tmp 0)) E.tS),
   (oQ 5 (.call { callee := .builtin .len, args := #[(.tmp 4)], argTypes := #[E.tS] }) E.tI),
   (oQ 6 (.call { callee := .builtin .min, args := #[(.tmp 5), (.const (.int .i64 32767))], argTypes := #[E.tI, E.tI] }) E.tI),
   (oQ 7 (.slice E.tS (.tmp 3) none (some (.tmp 6)) none) E.tS),
   (oQ 2 (.assign (.tmp 7)) E.tS)]),
  .ret])
def c_sAt (E : Env) : Code :=
 (sq [(rg [(oQ 2 (.box E.tT (.tmp 0)) 0),
   (oQ 4 (.alloc E.tT) 0)]),
  (sq [(rg [(oQ 5 (.move (.tmp 1)) E.tI),
    (oQ 6 (.fieldAddr E.tT (.tmp 2) 3) 0),
    (oQ 7 (.load E.tS (.tmp 6)) E.tS),
    (oQ 8 (.call { callee := .builtin .len, args := #[(.tmp 7)], argTypes := #[E.tS] }) E.tI),
    (oQ 9 (.binOp .lss E.tI (.tmp 5) (.tmp 8) E.tI) E.tO)]),
   (.cond (.tmp 9)
    (sq [(rg [(oQ 10 (.fieldAddr E.tT (.tmp 2) 3) 0),
      (oQ 11 (.load E.tS (.tmp 10)) E.tS),
      (oQ 12 (.move (.tmp 1)) E.tI),
      (oQ 13 (.indexAddr E.tS (.tmp 11) (.tmp 12)) 0),
      (oQ 14 (.load E.tT (.tmp 13)) E.tT),
      ⟨none, .store E.tT (.tmp 4) (.tmp 14), 0, "", #[], none⟩]),
     .ret])
    .skip)]),
  (rg [(oQ 15 (.build E.tT #[]) E.tT),
   ⟨none, .store E.tT (.tmp 4) (.tmp 15), 0, "", #[], none⟩]),
  .ret])
def c_sUvar (E : Env) : Code :=
  (sq [(rg [(oQ 2 (.assign (.const (.slice none 0 0))) E.tB)]),
    (rg [(oQ 3 (.assign (.const (.slice none 0 0))) E.tB)]),
    (.block 0 (.loop (sq [(sq [(rg [(oQ 4 (.move (.tmp 0)) E.tU64),
              (oQ 5 (.binOp .gtr E.tU64 (.tmp 4) (.const (.int .u64 127)) E.tU64) E.tO)]),
            (.cond (.tmp 5)
              .skip
              (.exit 0))]),
          (.block 1 (sq [(rg [(oQ 6 (.move (.tmp 3)) E.tB),
                (oQ 7 (.move (.tmp 0)) E.tU64),
                (oQ 8 (.binOp .and E.tU64 (.tmp 7) (.const (.int .u64 127)) E.tU64) E.tU64),
                (oQ 9 (.convert E.tU64 E.tU8 (.tmp 8)) E.tU8),
                (oQ 10 (.binOp .or E.tU8 (.tmp 9) (.const (.int .u8 128)) E.tU8) E.tU8),
                (oQ 11 (.buildSlice E.tB 1 #[(0, (.tmp 10))]) E.tB),
                (oQ 12 (.call { callee := .builtin .append, args := #[(.tmp 6), (.tmp 11)], argTypes := #[E.tB, E.tB] }) E.tB),
                (oQ 3 (.assign (.tmp 12)) E.tB)]),
              (rg [(oQ 13 (.move (.tmp 0)) E.tU64),
                (oQ 14 (.binOp .shr E.tU64 (.tmp 13) (.const (.int .u64 7)) E.tUint) E.tU64),
                (oQ 0 (.assign (.tmp 14)) E.tU64)])]))]))),
    (rg [(oQ 15 (.move (.tmp 3)) E.tB),
      (oQ 16 (.move (.tmp 0)) E.tU64),
      (oQ 17 (.convert E.tU64 E.tU8 (.tmp 16)) E.tU8),
      (oQ 18 (.buildSlice E.tB 1 #[(0, (.tmp 17))]) E.tB),
      (oQ 19 (.call { callee := .builtin .append, args := #[(.tmp 15), (.tmp 18)], argTypes := #[E.tB, E.tB] }) E.tB),
      (oQ 2 (.assign (.tmp 19)) E.tB)]),
    .ret])
def c_sFixed (E : Env) : Code :=
  (sq [(rg [(oQ 4 (.assign (.const (.slice none 0 0))) E.tB)]),
    (rg [(oQ 5 (.assign (.const (.slice none 0 0))) E.tB)]),
    (sq [(rg [(oQ 7 (.move (.tmp 1)) E.tI),
        (oQ 8 (.binOp .sub E.tI (.tmp 7) (.const (.int .i64 1)) E.tI) E.tI),
        (oQ 6 (.assign (.tmp 8)) E.tI)]),
      (.block 0 (.loop (sq [(sq [(rg [(oQ 9 (.move (.tmp 6)) E.tI),
                (oQ 10 (.binOp .geq E.tI (.tmp 9) (.const (.int .i64 0)) E.tI) E.tO)]),
              (.cond (.tmp 10)
                .skip
                (.exit 0))]),
            (.block 1 (rg [(oQ 13 (.move (.tmp 5)) E.tB),
                (oQ 14 (.move (.tmp 0)) E.tI64),
                (oQ 15 (.move (.tmp 6)) E.tI),
                (oQ 16 (.binOp .mul E.tI (.const (.int .i64 8)) (.tmp 15) E.tI) E.tI),
                (oQ 17 (.binOp .shr E.tI64 (.tmp 14) (.tmp 16) E.tI) E.tI64),
                (oQ 18 (.convert E.tI64 E.tU8 (.tmp 17)) E.tU8),
                (oQ 19 (.buildSlice E.tB 1 #[(0, (.tmp 18))]) E.tB),
                (oQ 20 (.call { callee := .builtin .append, args := #[(.tmp 13), (.tmp 19)], argTypes := #[E.tB, E.tB] }) E.tB),
                (oQ 5 (.assign (.tmp 20)) E.tB)])),
            (rg [(oQ 11 (.move (.tmp 6)) E.tI),
              (oQ 12 (.binOp .sub E.tI (.tmp 11) (.const (.int .i64 1)) E.tI) E.tI),
              (oQ 6 (.assign (.tmp 12)) E.tI)])])))]),
    (rg [(oQ 21 (.move (.tmp 5)) E.tB),
      (oQ 4 (.assign (.tmp 21)) E.tB)]),
    .ret])
def c_sWidth (E : Env) : Code :=
 (sq [(rg [(oQ 2 (.assign (.const (.int .i64 0))) E.tI)]),
  (sq [(rg [(oQ 3 (.move (.tmp 0)) E.tI)]),
   (.block 0 (sq [(rg [(oQ 5 (.binOp .eql E.tI (.tmp 3) (.const (.int .i64 1)) E.tI) E.tO),
      (oQ 4 (.assign (.tmp 5)) E.tO)]),
     (.cond (.tmp 4)
      (sq [(rg [(oQ 2 (.assign (.const (.int .i64 1))) E.tI)]),
       .ret])
      (sq [(sq [(rg [(oQ 7 (.binOp .eql E.tI (.tmp 3) (.const (.int .i64 2)) E.tI) E.tO),
         (oQ 6 (.assign (.tmp 7)) E.tO)]),
        (.cond (.tmp 6)
         .skip
         (rg [(oQ 8 (.binOp .eql E.tI (.tmp 3) (.const (.int .i64 5)) E.tI) E.tO),
          (oQ 6 (.assign (.tmp 8)) E.tO)]))]),
       (.cond (.tmp 6)
        (sq [(rg [(oQ 2 (.assign (.const (.int .i64 2))) E.tI)]),
         .ret])
        (sq [(rg [(oQ 10 (.binOp .eql E.tI (.tmp 3) (.const (.int .i64 3)) E.tI) E.tO),
          (oQ 9 (.assign (.tmp 10)) E.tO)]),
         (.cond (.tmp 9)
          (sq [(rg [(oQ 2 (.assign (.const (.int .i64 4))) E.tI)]),
           .ret])
          .skip)]))]))]))]),
  (rg [(oQ 2 (.assign (.const (.int .i64 8))) E.tI)]),
  .ret])
def c_sCounted (E : Env) : Code :=
 (sq [(rg [(oQ 8 (.assign (.const (.slice none 0 0))) E.tB)]),
  (.block 0 (sq [(rg [(oQ 10 (.move (.tmp 0)) E.tO),
     (oQ 11 (.move (.tmp 10)) E.tO),
     ⟨some 12, .move (.tmp 1), E.tO, "", #[], some (1, true)⟩,
     (oQ 13 (.pick (.tmp 11) (.tmp 12) (.const (.bool false))) E.tO),
     (oQ 9 (.assign (.tmp 13)) E.tO)]),
    (.cond (.tmp 9)
     (sq [(rg [(oQ 14 (.buildSlice E.tB 1 #[(0, (.const (.int .u8 0)))]) E.tB),
       (oQ 8 (.assign (.tmp 14)) E.tB)]),
      .ret])
     (sq [(rg [(oQ 16 (.move (.tmp 0)) E.tO),
       (oQ 15 (.assign (.tmp 16)) E.tO)]),
      (.cond (.tmp 15)
       (sq [(rg [(oQ 17 (.move (.tmp 2)) E.tI),
         (oQ 18 (.convert E.tI E.tU64 (.tmp 17)) E.tU64),
         (oQ 19 (.binOp .add E.tU64 (.tmp 18) (.const (.int .u64 1)) E.tU64) E.tU64),
         (oQ 20 (.call { callee := .value (.func E.sUvar), args := #[(.tmp 19)], argTypes := #[E.tU64] }) E.tB),
         (oQ 8 (.assign (.tmp 20)) E.tB)]),
        .ret])
       (sq [(rg [(oQ 22 (.move (.tmp 1)) E.tO),
         (oQ 21 (.assign (.tmp 22)) E.tO)]),
        (.cond (.tmp 21)
         (sq [(rg [(oQ 23 (.move (.tmp 3)) E.tI),
           (oQ 24 (.call { callee := .value (.func E.sFixed), args := #[(.const (.int .i64 (-1))), (.tmp 23)], argTypes := #[E.tI64, E.tI] }) E.tB),
           (oQ 8 (.assign (.tmp 24)) E.tB)]),
          .ret])
         .skip)]))]))])),
  (rg [(oQ 25 (.move (.tmp 2)) E.tI),
   (oQ 26 (.move (.tmp 3)) E.tI),
   (oQ 27 (.call { callee := .value (.func E.sFixed), args := #[(.tmp 25), (.tmp 26)], argTypes := #[E.tI64, E.tI] }) E.tB),
   (oQ 8 (.assign (.tmp 27)) E.tB)]),
  .ret])
def c_sValue (E : Env) : Code :=
 (sq [(rg [(oQ 11 (.box E.tT (.tmp 5)) 0),
   (oQ 12 (.assign (.const (.slice none 0 0))) E.tB)]),
  (sq [(rg [(oQ 16 (.move (.tmp 0)) E.tI)]),
   (.block 0 (sq [(rg [(oQ 18 (.binOp .eql E.tI (.tmp 16) (.const (.int .i64 0)) E.tI) E.tO),
      (oQ 17 (.assign (.tmp 18)) E.tO)]),
     (.cond (.tmp 17)
      (sq [(rg [(oQ 19 (.fieldAddr E.tT (.tmp 11) 0) 0),
        (oQ 20 (.load E.tI64 (.tmp 19)) E.tI64),
        (oQ 21 (.binOp .and E.tI64 (.tmp 20) (.const (.int .i64 1)) E.tI64) E.tI64),
        (oQ 22 (.convert E.tI64 E.tU8 (.tmp 21)) E.tU8),
        (oQ 23 (.buildSlice E.tB 1 #[(0, (.tmp 22))]) E.tB),
        (oQ 12 (.assign (.tmp 23)) E.tB)]),
       .ret])
      (sq [(rg [(oQ 25 (.binOp .eql E.tI (.tmp 16) (.const (.int .i64 7)) E.tI) E.tO),
        (oQ 24 (.assign (.tmp 25)) E.tO)]),
       (.cond (.tmp 24)
        (sq [(rg [(oQ 26 (.makeSlice E.tB (.const (.int .i64 16)) (.const (.int .i64 16))) E.tB),
          (oQ 13 (.assign (.tmp 26)) E.tB)]),
         (rg [(oQ 27 (.move (.tmp 13)) E.tB),
          (oQ 28 (.fieldAddr E.tT (.tmp 11) 1) 0),
          (oQ 29 (.load E.tB (.tmp 28)) E.tB),
          (oQ 30 (.call { callee := .builtin .copy, args := #[(.tmp 27), (.tmp 29)], argTypes := #[E.tB, E.tB] }) E.tI)]),
         (rg [(oQ 31 (.move (.tmp 13)) E.tB),
          (oQ 12 (.assign (.tmp 31)) E.tB)]),
         .ret])
        (sq [(rg [(oQ 33 (.binOp .eql E.tI (.tmp 16) (.const (.int .i64 8)) E.tI) E.tO),
          (oQ 32 (.assign (.tmp 33)) E.tO)]),
         (.cond (.tmp 32)
          (sq [(rg [(oQ 34 (.fieldAddr E.tT (.tmp 11) 1) 0),
            (oQ 35 (.load E.tB (.tmp 34)) E.tB),
            (oQ 36 (.call { callee := .value (.func E.sWhole), args := #[(.tmp 35)], argTypes := #[E.tB] }) E.tB),
            (oQ 14 (.assign (.tmp 36)) E.tB)]),
           (sq [(rg [(oQ 37 (.move (.tmp 2)) E.tO)]),
            (.cond (.tmp 37)
             (rg [(oQ 14 (.assign (.const (.slice none 0 0))) E.tB)])
             .skip)]),
           (rg [(oQ 38 (.move (.tmp 4)) E.tO),
            (oQ 39 (.move (.tmp 2)) E.tO),
            (oQ 40 (.move (.tmp 14)) E.tB),
            (oQ 41 (.call { callee := .builtin .len, args := #[(.tmp 40)], argTypes := #[E.tB] }) E.tI),
            (oQ 42 (.call { callee := .value (.func E.sCounted), args := #[(.tmp 38), (.tmp 39), (.tmp 41), (.const (.int .i64 2))], argTypes := #[E.tO, E.tO, E.tI, E.tI] }) E.tB),
            (oQ 43 (.move (.tmp 14)) E.tB),
            (oQ 44 (.call { callee := .builtin .append, args := #[(.tmp 42), (.tmp 43)], argTypes := #[E.tB, E.tB] }) E.tB),
            (oQ 12 (.assign (.tmp 44)) E.tB)]),
           .ret])
          (sq [(rg [(oQ 46 (.binOp .eql E.tI (.tmp 16) (.const (.int .i64 9)) E.tI) E.tO),
            (oQ 45 (.assign (.tmp 46)) E.tO)]),
           (.cond (.tmp 45)
            (sq [(rg [(oQ 47 (.fieldAddr E.tT (.tmp 11) 1) 0),
              (oQ 48 (.load E.tB (.tmp 47)) E.tB),
              (oQ 49 (.call { callee := .value (.func E.sWhole), args := #[(.tmp 48)], argTypes := #[E.tB] }) E.tB),
              (oQ 15 (.assign (.tmp 49)) E.tB)]),
             (sq [(rg [(oQ 50 (.move (.tmp 2)) E.tO)]),
              (.cond (.tmp 50)
               (rg [(oQ 15 (.assign (.const (.slice none 0 0))) E.tB)])
               .skip)]),
             (rg [(oQ 51 (.move (.tmp 4)) E.tO),
              (oQ 52 (.move (.tmp 2)) E.tO),
              (oQ 53 (.move (.tmp 15)) E.tB),
              (oQ 54 (.call { callee := .builtin .len, args := #[(.tmp 53)], argTypes := #[E.tB] }) E.tI),
              (oQ 55 (.call { callee := .value (.func E.sCounted), args := #[(.tmp 51), (.tmp 52), (.tmp 54), (.const (.int .i64 4))], argTypes := #[E.tO, E.tO, E.tI, E.tI] }) E.tB),
              (oQ 56 (.move (.tmp 15)) E.tB),
              (oQ 57 (.call { callee := .builtin .append, args := #[(.tmp 55), (.tmp 56)], argTypes := #[E.tB, E.tB] }) E.tB),
              (oQ 12 (.assign (.tmp 57)) E.tB)]),
             .ret])
            (sq [(rg [(oQ 59 (.binOp .eql E.tI (.tmp 16) (.const (.int .i64 10)) E.tI) E.tO),
              (oQ 58 (.assign (.tmp 59)) E.tO)]),
             (.cond (.tmp 58)
              (sq [(rg [(oQ 60 (.move (.tmp 1)) E.tFlds),
                (oQ 61 (.move (.tmp 3)) E.tI),
                (oQ 62 (.move (.tmp 4)) E.tO),
                (oQ 63 (.load E.tT (.tmp 11)) E.tT),
                (oQ 64 (.call { callee := .value (.func E.sPart), args := #[(.tmp 60), (.tmp 61), (.tmp 62), (.tmp 63)], argTypes := #[E.tFlds, E.tI, E.tO, E.tT] }) E.tB),
                (oQ 12 (.assign (.tmp 64)) E.tB)]),
               .ret])
              .skip)]))]))]))]))]))]),
  (rgd [(oQ 65 (.fieldAddr E.tT (.tmp 11) 0) 0),
   ⟨some 66, .load E.tI64 (.tmp 65), E.tI64, "", #[⟨0, .data⟩], none⟩,
   (oQ 67 (.move (.tmp 0)) E.tI),
   ⟨some 68, .call { callee := .value (.func E.sWidth), args := #[(.tmp 67)], argTypes := #[E.tI] }, E.tI, "", #[⟨2, .data⟩], none⟩,
   ⟨some 69, .call { callee := .value (.func E.sFixed), args := #[(.tmp 66), (.tmp 68)], argTypes := #[E.tI64, E.tI] }, E.tB, "", #[⟨1, .data⟩, ⟨3, .data⟩, ⟨3, .chain⟩], none⟩,
   ⟨some 12, .assign (.tmp 69), E.tB, "", #[⟨4, .data⟩, ⟨4, .chain⟩, ⟨0, .phase⟩, ⟨1, .phase⟩, ⟨2, .phase⟩, ⟨3, .phase⟩, ⟨4, .phase⟩], none⟩]),
  .ret])
def c_sField (E : Env) : Code :=
 (sq [(rg [(oQ 4 (.box E.tFld (.tmp 0)) 0),
   (oQ 7 (.box E.tT (.tmp 3)) 0),
   (oQ 8 (.assign (.const (.slice none 0 0))) E.tB)]),
  (rg [(oQ 13 (.load E.tFld (.tmp 4)) E.tFld),
   (oQ 14 (.move (.tmp 1)) E.tI),
   (oQ 15 (.load E.tT (.tmp 7)) E.tT),
   (oQ 16 (.call { callee := .value (.func E.sNull), args := #[(.tmp 13), (.tmp 14), (.tmp 15)], argTypes := #[E.tFld, E.tI, E.tT] }) E.tO),
   (oQ 9 (.assign (.tmp 16)) E.tO)]),
  (sq [(rg [(oQ 17 (.fieldAddr E.tFld (.tmp 4) 0) 0),
    (oQ 18 (.load E.tI (.tmp 17)) E.tI),
    (oQ 19 (.binOp .eql E.tI (.tmp 18) (.const (.int .i64 11)) E.tI) E.tO)]),
   (.cond (.tmp 19)
    (sq [(rg [(oQ 20 (.fieldAddr E.tT (.tmp 7) 3) 0),
      (oQ 21 (.load E.tS (.tmp 20)) E.tS),
      (oQ 22 (.call { callee := .value (.func E.sThings), args := #[(.tmp 21)], argTypes := #[E.tS] }) E.tS),
      (oQ 10 (.assign (.tmp 22)) E.tS)]),
     (sq [(rg [(oQ 23 (.move (.tmp 9)) E.tO)]),
      (.cond (.tmp 23)
       (rg [(oQ 10 (.assign (.const (.slice none 0 0))) E.tS)])
       .skip)]),
     (rg [(oQ 24 (.move (.tmp 2)) E.tO),
      (oQ 25 (.move (.tmp 9)) E.tO),
      (oQ 26 (.move (.tmp 10)) E.tS),
      (oQ 27 (.call { callee := .builtin .len, args := #[(.tmp 26)], argTypes := #[E.tS] }) E.tI),
      (oQ 28 (.call { callee := .value (.func E.sCounted), args := #[(.tmp 24), (.tmp 25), (.tmp 27), (.const (.int .i64 4))], argTypes := #[E.tO, E.tO, E.tI, E.tI] }) E.tB),
      (oQ 11 (.assign (.tmp 28)) E.tB)]),
     (sq [(rg [(oQ 29 (.move (.tmp 10)) E.tS),
       (oQ 30 (.call { callee := .builtin .len, args := #[(.tmp 29)], argTypes := #[E.tS] }) E.tI),
       (oQ 31 (.move (.const (.int .i64 0))) E.tI)]),
      (.block 0 (.loop (sq [(rg [(oQ 32 (.binOp .lss E.tI (.tmp 31) (.tmp 30) E.tI) 0)]),
         (.cond (.tmp 32)
          .skip
          (.exit 0)),
         (.block 1 (sq [(rg [(oQ 33 (.move (.tmp 31)) E.tI),
            (oQ 12 (.assign (.tmp 33)) E.tI)]),
           (rgd [(oQ 34 (.move (.tmp 11)) E.tB),
            (oQ 35 (.fieldAddr E.tFld (.tmp 4) 6) 0),
            ⟨some 36, .load E.tI (.tmp 35), E.tI, "", #[⟨1, .data⟩], none⟩,
            (oQ 37 (.fieldAddr E.tFld (.tmp 4) 7) 0),
            ⟨some 38, .load E.tFlds (.tmp 37), E.tFlds, "", #[⟨3, .data⟩], none⟩,
            (oQ 39 (.move (.tmp 1)) E.tI),
            (oQ 40 (.move (.tmp 2)) E.tO),
            (oQ 41 (.move (.tmp 10)) E.tS),
            (oQ 42 (.move (.tmp 12)) E.tI),
            ⟨some 43, .indexAddr E.tS (.tmp 41) (.tmp 42), 0, "", #[⟨7, .data⟩, ⟨8, .data⟩], none⟩,
            ⟨some 44, .load E.tT (.tmp 43), E.tT, "", #[⟨9, .data⟩], none⟩,
            ⟨some 45, .call { callee := .value (.func E.sValue), args := #[(.tmp 36), (.tmp 38), (.const (.bool false)), (.tmp 39), (.tmp 40), (.tmp 44)], argTypes := #[E.tI, E.tFlds, E.tO, E.tI, E.tO, E.tT] }, E.tB, "", #[⟨2, .data⟩, ⟨4, .data⟩, ⟨5, .data⟩, ⟨6, .data⟩, ⟨10, .data⟩], none⟩,
            ⟨some 46, .call { callee := .builtin .append, args := #[(.tmp 34), (.tmp 45)], argTypes := #[E.tB, E.tB] }, E.tB, "", #[⟨0, .data⟩, ⟨11, .data⟩, ⟨11, .chain⟩], none⟩,
            ⟨some 11, .assign (.tmp 46), E.tB, "", #[⟨12, .data⟩, ⟨12, .chain⟩, ⟨0, .phase⟩, ⟨1, .phase⟩, ⟨2, .phase⟩, ⟨3, .phase⟩, ⟨4, .phase⟩, ⟨5, .phase⟩, ⟨6, .phase⟩, ⟨7, .phase⟩, ⟨8, .phase⟩, ⟨9, .phase⟩, ⟨10, .phase⟩, ⟨11, .phase⟩, ⟨12, .phase⟩], none⟩])])),
         (rg [(oQ 47 (.binOp .add E.tI (.tmp 31) (.const (.int .i64 1)) E.tI) E.tI),
          (oQ 31 (.move (.tmp 47)) E.tI)])])))]),
     (rg [(oQ 48 (.move (.tmp 11)) E.tB),
      (oQ 8 (.assign (.tmp 48)) E.tB)]),
     .ret])
    .skip)]),
  (sq [(rg [(oQ 49 (.fieldAddr E.tFld (.tmp 4) 0) 0),
    (oQ 50 (.load E.tI (.tmp 49)) E.tI),
    (oQ 51 (.binOp .eql E.tI (.tmp 50) (.const (.int .i64 10)) E.tI) E.tO),
    (oQ 52 (.move (.tmp 51)) E.tO),
    ⟨some 53, .fieldAddr E.tFld (.tmp 4) 3, 0, "", #[], some (3, true)⟩,
    ⟨some 54, .load E.tI (.tmp 53), E.tI, "", #[], some (3, true)⟩,
    ⟨some 55, .binOp .geq E.tI (.tmp 54) (.const (.int .i64 0)) E.tI, E.tO, "", #[], some (3, true)⟩,
    (oQ 56 (.pick (.tmp 52) (.tmp 55) (.const (.bool false))) E.tO)]),
   (.cond (.tmp 56)
    (sq [(sq [(rg [(oQ 57 (.move (.tmp 9)) E.tO)]),
      (.cond (.tmp 57)
       (sq [(rg [(oQ 58 (.call { callee := .value (.func E.sFixed), args := #[(.const (.int .i64 (-1))), (.const (.int .i64 1))], argTypes := #[E.tI64, E.tI] }) E.tB),
         (oQ 8 (.assign (.tmp 58)) E.tB)]),
        .ret])
       .skip)]),
     (rgd [(oQ 59 (.call { callee := .value (.func E.sFixed), args := #[(.const (.int .i64 1)), (.const (.int .i64 1))], argTypes := #[E.tI64, E.tI] }) E.tB),
      (oQ 60 (.fieldAddr E.tFld (.tmp 4) 7) 0),
      ⟨some 61, .load E.tFlds (.tmp 60), E.tFlds, "", #[⟨1, .data⟩], none⟩,
      (oQ 62 (.move (.tmp 1)) E.tI),
      (oQ 63 (.move (.tmp 2)) E.tO),
      (oQ 64 (.load E.tT (.tmp 7)) E.tT),
      ⟨some 65, .call { callee := .value (.func E.sPart), args := #[(.tmp 61), (.tmp 62), (.tmp 63), (.tmp 64)], argTypes := #[E.tFlds, E.tI, E.tO, E.tT] }, E.tB, "", #[⟨2, .data⟩, ⟨3, .data⟩, ⟨4, .data⟩, ⟨5, .data⟩, ⟨0, .chain⟩], none⟩,
      ⟨some 66, .call { callee := .builtin .append, args := #[(.tmp 59), (.tmp 65)], argTypes := #[E.tB, E.tB] }, E.tB, "", #[⟨0, .data⟩, ⟨6, .data⟩, ⟨6, .chain⟩], none⟩,
      ⟨some 8, .assign (.tmp 66), E.tB, "", #[⟨7, .data⟩, ⟨7, .chain⟩, ⟨0, .phase⟩, ⟨1, .phase⟩, ⟨2, .phase⟩, ⟨3, .phase⟩, ⟨4, .phase⟩, ⟨5, .phase⟩, ⟨6, .phase⟩, ⟨7, .phase⟩], none⟩]),
     .ret])
    .skip)]),
  (rg [(oQ 67 (.fieldAddr E.tFld (.tmp 4) 0) 0),
   (oQ 68 (.load E.tI (.tmp 67)) E.tI),
   (oQ 69 (.fieldAddr E.tFld (.tmp 4) 7) 0),
   (oQ 70 (.load E.tFlds (.tmp 69)) E.tFlds),
   (oQ 71 (.move (.tmp 9)) E.tO),
   (oQ 72 (.move (.tmp 1)) E.tI),
   (oQ 73 (.move (.tmp 2)) E.tO),
   (oQ 74 (.load E.tT (.tmp 7)) E.tT),
   (oQ 75 (.call { callee := .value (.func E.sValue), args := #[(.tmp 68), (.tmp 70), (.tmp 71), (.tmp 72), (.tmp 73), (.tmp 74)], argTypes := #[E.tI, E.tFlds, E.tO, E.tI, E.tO, E.tT] }) E.tB),
   (oQ 8 (.assign (.tmp 75)) E.tB)]),
  .ret])
def c_sUsual (E : Env) : Code :=
 (sq [(rg [(oQ 2 (.box E.tFld (.tmp 0)) 0),
   (oQ 3 (.box E.tT (.tmp 1)) 0),
   (oQ 4 (.assign (.const (.bool false))) E.tO)]),
  (sq [(rg [(oQ 9 (.fieldAddr E.tFld (.tmp 2) 0) 0),
    (oQ 10 (.load E.tI (.tmp 9)) E.tI)]),
   (.block 0 (sq [(rg [(oQ 12 (.binOp .eql E.tI (.tmp 10) (.const (.int .i64 0)) E.tI) E.tO),
      (oQ 11 (.assign (.tmp 12)) E.tO)]),
     (.cond (.tmp 11)
      (sq [(rg [(oQ 13 (.fieldAddr E.tT (.tmp 3) 0) 0),
        (oQ 14 (.load E.tI64 (.tmp 13)) E.tI64),
        (oQ 15 (.binOp .and E.tI64 (.tmp 14) (.const (.int .i64 1)) E.tI64) E.tI64),
        (oQ 16 (.fieldAddr E.tFld (.tmp 2) 5) 0),
        (oQ 17 (.load E.tI64 (.tmp 16)) E.tI64),
        (oQ 18 (.binOp .eql E.tI64 (.tmp 15) (.tmp 17) E.tI64) E.tO),
        (oQ 4 (.assign (.tmp 18)) E.tO)]),
       .ret])
      (sq [(rg [(oQ 20 (.binOp .eql E.tI (.tmp 10) (.const (.int .i64 7)) E.tI) E.tO),
        (oQ 19 (.assign (.tmp 20)) E.tO)]),
       (.cond (.tmp 19)
        (sq [(sq [(rg [(oQ 21 (.fieldAddr E.tT (.tmp 3) 1) 0),
           (oQ 22 (.load E.tB (.tmp 21)) E.tB),
           (oQ 23 (.call { callee := .builtin .len, args := #[(.tmp 22)], argTypes := #[E.tB] }) E.tI),
           (oQ 24 (.move (.const (.int .i64 0))) E.tI)]),
          (.block 1 (.loop (sq [(rg [(oQ 25 (.binOp .lss E.tI (.tmp 24) (.tmp 23) E.tI) 0)]),
             (.cond (.tmp 25)
              .skip
              (.exit 1)),
             (.block 2 (sq [(rg [(oQ 26 (.move (.tmp 24)) E.tI),
                (oQ 27 (.indexAddr E.tB (.tmp 22) (.tmp 24)) 0),
                (oQ 28 (.load E.tU8 (.tmp 27)) E.tU8),
                (oQ 5 (.assign (.tmp 26)) E.tI),
                (oQ 6 (.assign (.tmp 28)) E.tU8)]),
               (rg [(oQ 29 (.move (.tmp 5)) E.tI),
                (oQ 30 (.binOp .lss E.tI (.tmp 29) (.const (.int .i64 16)) E.tI) E.tO),
                (oQ 31 (.move (.tmp 30)) E.tO),
                ⟨some 32, .move (.tmp 6), E.tU8, "", #[], some (2, true)⟩,
                ⟨some 33, .binOp .neq E.tU8 (.tmp 32) (.const (.int .u8 0)) E.tU8, E.tO, "", #[], some (2, true)⟩,
                (oQ 34 (.pick (.tmp 31) (.tmp 33) (.const (.bool false))) E.tO)]),
               (.cond (.tmp 34)
                (sq [(rg [(oQ 4 (.assign (.const (.bool false))) E.tO)]),
                 .ret])
                .skip)])),
             (rg [(oQ 35 (.binOp .add E.tI (.tmp 24) (.const (.int .i64 1)) E.tI) E.tI),
              (oQ 24 (.move (.tmp 35)) E.tI)])])))]),
         (rg [(oQ 4 (.assign (.const (.bool true))) E.tO)]),
         .ret])
        (sq [(sq [(rg [(oQ 37 (.binOp .eql E.tI (.tmp 10) (.const (.int .i64 8)) E.tI) E.tO),
           (oQ 36 (.assign (.tmp 37)) E.tO)]),
          (.cond (.tmp 36)
           .skip
           (rg [(oQ 38 (.binOp .eql E.tI (.tmp 10) (.const (.int .i64 9)) E.tI) E.tO),
            (oQ 36 (.assign (.tmp 38)) E.tO)]))]),
         (.cond (.tmp 36)
          (sq [(sq [(rg [(oQ 39 (.fieldAddr E.tFld (.tmp 2) 3) 0),
             (oQ 40 (.load E.tI (.tmp 39)) E.tI),
             (oQ 41 (.binOp .geq E.tI (.tmp 40) (.const (.int .i64 0)) E.tI) E.tO)]),
            (.cond (.tmp 41)
             (sq [(rg [(oQ 42 (.fieldAddr E.tT (.tmp 3) 2) 0),
               (oQ 43 (.load E.tO (.tmp 42)) E.tO),
               (oQ 4 (.assign (.tmp 43)) E.tO)]),
              .ret])
             .skip)]),
           (rg [(oQ 44 (.fieldAddr E.tT (.tmp 3) 1) 0),
            (oQ 45 (.load E.tB (.tmp 44)) E.tB),
            (oQ 46 (.call { callee := .builtin .len, args := #[(.tmp 45)], argTypes := #[E.tB] }) E.tI),
            (oQ 47 (.binOp .eql E.tI (.tmp 46) (.const (.int .i64 0)) E.tI) E.tO),
            (oQ 4 (.assign (.tmp 47)) E.tO)]),
           .ret])
          (sq [(rg [(oQ 49 (.binOp .eql E.tI (.tmp 10) (.const (.int .i64 11)) E.tI) E.tO),
            (oQ 48 (.assign (.tmp 49)) E.tO)]),
           (.cond (.tmp 48)
            (sq [(rg [(oQ 50 (.fieldAddr E.tT (.tmp 3) 3) 0),
              (oQ 51 (.load E.tS (.tmp 50)) E.tS),
              (oQ 52 (.call { callee := .builtin .len, args := #[(.tmp 51)], argTypes := #[E.tS] }) E.tI),
              (oQ 53 (.binOp .eql E.tI (.tmp 52) (.const (.int .i64 0)) E.tI) E.tO),
              (oQ 4 (.assign (.tmp 53)) E.tO)]),
             .ret])
            (sq [(rg [(oQ 55 (.binOp .eql E.tI (.tmp 10) (.const (.int .i64 10)) E.tI) E.tO),
              (oQ 54 (.assign (.tmp 55)) E.tO)]),
             (.cond (.tmp 54)
              (sq [(sq [(rg [(oQ 56 (.fieldAddr E.tFld (.tmp 2) 7) 0),
                 (oQ 57 (.load E.tFlds (.tmp 56)) E.tFlds),
                 (oQ 58 (.call { callee := .builtin .len, args := #[(.tmp 57)], argTypes := #[E.tFlds] }) E.tI),
                 (oQ 59 (.move (.const (.int .i64 0))) E.tI)]),
                (.block 3 (.loop (sq [(rg [(oQ 60 (.binOp .lss E.tI (.tmp 59) (.tmp 58) E.tI) 0)]),
                   (.cond (.tmp 60)
                    .skip
                    (.exit 3)),
                   (.block 4 (sq [(rg [(oQ 61 (.move (.tmp 59)) E.tI),
                      (oQ 62 (.indexAddr E.tFlds (.tmp 57) (.tmp 59)) 0),
                      (oQ 63 (.load E.tFld (.tmp 62)) E.tFld),
                      (oQ 8 (.alloc E.tFld) 0),
                      (oQ 7 (.assign (.tmp 61)) E.tI),
                      ⟨none, .store E.tFld (.tmp 8) (.tmp 63), 0, "", #[], none⟩]),
                     (rgd [(oQ 64 (.load E.tFld (.tmp 8)) E.tFld),
                      (oQ 65 (.load E.tT (.tmp 3)) E.tT),
                      (oQ 66 (.move (.tmp 7)) E.tI),
                      ⟨some 67, .call { callee := .value (.func E.sAt), args := #[(.tmp 65), (.tmp 66)], argTypes := #[E.tT, E.tI] }, E.tT, "", #[⟨1, .data⟩, ⟨2, .data⟩], none⟩,
                      ⟨some 68, .call { callee := .value (.func E.sUsual), args := #[(.tmp 64), (.tmp 67)], argTypes := #[E.tFld, E.tT] }, E.tO, "", #[⟨0, .data⟩, ⟨3, .data⟩, ⟨3, .chain⟩], none⟩,
                      ⟨some 69, .unOp .not E.tO (.tmp 68), E.tO, "", #[⟨4, .data⟩], none⟩]),
                     (.cond (.tmp 69)
                      (sq [(rg [(oQ 4 (.assign (.const (.bool false))) E.tO)]),
                       .ret])
                      .skip)])),
                   (rg [(oQ 70 (.binOp .add E.tI (.tmp 59) (.const (.int .i64 1)) E.tI) E.tI),
                    (oQ 59 (.move (.tmp 70)) E.tI)])])))]),
               (rg [(oQ 71 (.fieldAddr E.tFld (.tmp 2) 7) 0),
                (oQ 72 (.load E.tFlds (.tmp 71)) E.tFlds),
                (oQ 73 (.fieldAddr E.tT (.tmp 3) 4) 0),
                (oQ 74 (.load E.tK (.tmp 73)) E.tK),
                (oQ 75 (.call { callee := .value (.func E.sUnknown), args := #[(.tmp 72), (.tmp 74)], argTypes := #[E.tFlds, E.tK] }) E.tK),
                (oQ 76 (.call { callee := .builtin .len, args := #[(.tmp 75)], argTypes := #[E.tK] }) E.tI),
                (oQ 77 (.binOp .eql E.tI (.tmp 76) (.const (.int .i64 0)) E.tI) E.tO),
                (oQ 4 (.assign (.tmp 77)) E.tO)]),
               .ret])
              .skip)]))]))]))]))]))]),
  (rgd [(oQ 78 (.fieldAddr E.tT (.tmp 3) 0) 0),
   ⟨some 79, .load E.tI64 (.tmp 78), E.tI64, "", #[⟨0, .data⟩], none⟩,
   (oQ 80 (.fieldAddr E.tFld (.tmp 2) 0) 0),
   ⟨some 81, .load E.tI (.tmp 80), E.tI, "", #[⟨2, .data⟩], none⟩,
   ⟨some 82, .call { callee := .value (.func E.sWidth), args := #[(.tmp 81)], argTypes := #[E.tI] }, E.tI, "", #[⟨3, .data⟩], none⟩,
   ⟨some 83, .call { callee := .value (.func E.sFixed), args := #[(.tmp 79), (.tmp 82)], argTypes := #[E.tI64, E.tI] }, E.tB, "", #[⟨1, .data⟩, ⟨4, .data⟩, ⟨4, .chain⟩], none⟩,
   (oQ 84 (.fieldAddr E.tFld (.tmp 2) 5) 0),
   ⟨some 85, .load E.tI64 (.tmp 84), E.tI64, "", #[⟨6, .data⟩], none⟩,
   (oQ 86 (.fieldAddr E.tFld (.tmp 2) 0) 0),
   ⟨some 87, .load E.tI (.tmp 86), E.tI, "", #[⟨8, .data⟩], none⟩,
   ⟨some 88, .call { callee := .value (.func E.sWidth), args := #[(.tmp 87)], argTypes := #[E.tI] }, E.tI, "", #[⟨9, .data⟩, ⟨5, .chain⟩], none⟩,
   ⟨some 89, .call { callee := .value (.func E.sFixed), args := #[(.tmp 85), (.tmp 88)], argTypes := #[E.tI64, E.tI] }, E.tB, "", #[⟨7, .data⟩, ⟨10, .data⟩, ⟨10, .chain⟩], none⟩,
   ⟨some 90, .call { callee := .value (.func E.sSame), args := #[(.tmp 83), (.tmp 89)], argTypes := #[E.tB, E.tB] }, E.tO, "", #[⟨5, .data⟩, ⟨11, .data⟩, ⟨11, .chain⟩], none⟩,
   ⟨some 4, .assign (.tmp 90), E.tO, "", #[⟨12, .data⟩, ⟨12, .chain⟩, ⟨0, .phase⟩, ⟨1, .phase⟩, ⟨2, .phase⟩, ⟨3, .phase⟩, ⟨4, .phase⟩, ⟨5, .phase⟩, ⟨6, .phase⟩, ⟨7, .phase⟩, ⟨8, .phase⟩, ⟨9, .phase⟩, ⟨10, .phase⟩, ⟨11, .phase⟩, ⟨12, .phase⟩], none⟩]),
  .ret])
def c_sKnown (E : Env) : Code :=
 (sq [(rg [(oQ 2 (.assign (.const (.int .u32 0))) E.tW)]),
  (rg [(oQ 3 (.assign (.const (.int .u32 0))) E.tW)]),
  (sq [(rg [(oQ 6 (.move (.tmp 0)) E.tFlds),
    (oQ 7 (.call { callee := .builtin .len, args := #[(.tmp 6)], argTypes := #[E.tFlds] }) E.tI),
    (oQ 8 (.move (.const (.int .i64 0))) E.tI)]),
   (.block 0 (.loop (sq [(rg [(oQ 9 (.binOp .lss E.tI (.tmp 8) (.tmp 7) E.tI) 0)]),
      (.cond (.tmp 9)
       .skip
       (.exit 0)),
      (.block 1 (sq [(rg [(oQ 10 (.indexAddr E.tFlds (.tmp 6) (.tmp 8)) 0),
         (oQ 11 (.load E.tFld (.tmp 10)) E.tFld),
         (oQ 5 (.alloc E.tFld) 0),
         ⟨none, .store E.tFld (.tmp 5) (.tmp 11), 0, "", #[], none⟩]),
        (rg [(oQ 12 (.fieldAddr E.tFld (.tmp 5) 4) 0),
         (oQ 13 (.load E.tI (.tmp 12)) E.tI),
         (oQ 14 (.binOp .geq E.tI (.tmp 13) (.const (.int .i64 0)) E.tI) E.tO)]),
        (.cond (.tmp 14)
         (rg [(oQ 15 (.move (.tmp 3)) E.tW),
          (oQ 16 (.fieldAddr E.tFld (.tmp 5) 4) 0),
          (oQ 17 (.load E.tI (.tmp 16)) E.tI),
          (oQ 18 (.convert E.tI E.tW (.tmp 17)) E.tW),
          (oQ 19 (.binOp .add E.tW (.tmp 18) (.const (.int .u32 1)) E.tW) E.tW),
          (oQ 20 (.call { callee := .builtin .max, args := #[(.tmp 15), (.tmp 19)], argTypes := #[E.tW, E.tW] }) E.tW),
          (oQ 3 (.assign (.tmp 20)) E.tW)])
         .skip)])),
      (rg [(oQ 21 (.binOp .add E.tI (.tmp 8) (.const (.int .i64 1)) E.tI) E.tI),
       (oQ 8 (.move (.tmp 21)) E.tI)])])))]),
  (rg [(oQ 22 (.move (.tmp 3)) E.tW),
   (oQ 2 (.assign (.tmp 22)) E.tW)]),
  .ret])
def c_sUnknown (E : Env) : Code :=
  (sq [(rg [(oQ 4 (.assign (.const (.slice none 0 0))) E.tK)]),
    (rg [(oQ 11 (.move (.tmp 0)) E.tFlds),
      (oQ 12 (.call { callee := .value (.func E.sKnown), args := #[(.tmp 11)], argTypes := #[E.tFlds] }) E.tW),
      (oQ 5 (.assign (.tmp 12)) E.tW)]),
    (rg [(oQ 6 (.assign (.const (.slice none 0 0))) E.tK)]),
    (sq [(rg [(oQ 13 (.move (.tmp 1)) E.tK),
        (oQ 14 (.move (.tmp 1)) E.tK),
        (oQ 15 (.call { callee := .builtin .len, args := #[(.tmp 14)], argTypes := #[E.tK] }) E.tI),
        (oQ 16 (.call { callee := .builtin .min, args := #[(.tmp 15), (.const (.int .i64 32767))], argTypes := #[E.tI, E.tI] }) E.tI),
        (oQ 17 (.slice E.tK (.tmp 13) none (some (.tmp 16)) none) E.tK),
        (oQ 18 (.call { callee := .builtin .len, args := #[(.tmp 17)], argTypes := #[E.tK] }) E.tI),
        (oQ 19 (.move (.const (.int .i64 0))) E.tI)]),
      (.block 0 (.loop (sq [(rg [(oQ 20 (.binOp .lss E.tI (.tmp 19) (.tmp 18) E.tI) 0)]),
            (.cond (.tmp 20)
              .skip
              (.exit 0)),
            (.block 1 (sq [(rg [(oQ 21 (.indexAddr E.tK (.tmp 17) (.tmp 19)) 0),
                  (oQ 22 (.load E.tUnk (.tmp 21)) E.tUnk),
                  (oQ 8 (.alloc E.tUnk) 0),
                  ⟨none, .store E.tUnk (.tmp 8) (.tmp 22), 0, "", #[], none⟩]),
                (rg [(oQ 9 (.assign (.const (.int .i64 0))) E.tI)]),
                (.block 2 (.loop (sq [(sq [(rgd [(oQ 23 (.move (.tmp 9)) E.tI),
                          (oQ 24 (.move (.tmp 6)) E.tK),
                          ⟨some 25, .call { callee := .builtin .len, args := #[(.tmp 24)], argTypes := #[E.tK] }, E.tI, "", #[⟨1, .data⟩], none⟩,
                          ⟨some 26, .binOp .lss E.tI (.tmp 23) (.tmp 25) E.tI, E.tO, "", #[⟨0, .data⟩, ⟨2, .data⟩], none⟩,
                          ⟨some 27, .move (.tmp 26), E.tO, "", #[⟨3, .data⟩], none⟩,
                          ⟨some 28, .move (.tmp 6), E.tK, "", #[⟨4, .guard⟩], some (4, true)⟩,
                          ⟨some 29, .move (.tmp 9), E.tI, "", #[⟨4, .guard⟩], some (4, true)⟩,
                          ⟨some 30, .indexAddr E.tK (.tmp 28) (.tmp 29), 0, "", #[⟨5, .data⟩, ⟨6, .data⟩, ⟨4, .guard⟩], some (4, true)⟩,
                          ⟨some 31, .fieldAddr E.tUnk (.tmp 30) 0, 0, "", #[⟨7, .data⟩, ⟨4, .guard⟩], some (4, true)⟩,
                          ⟨some 32, .load E.tW (.tmp 31), E.tW, "", #[⟨8, .data⟩, ⟨4, .guard⟩], some (4, true)⟩,
                          ⟨some 33, .fieldAddr E.tUnk (.tmp 8) 0, 0, "", #[⟨4, .guard⟩], some (4, true)⟩,
                          ⟨some 34, .load E.tW (.tmp 33), E.tW, "", #[⟨10, .data⟩, ⟨4, .guard⟩], some (4, true)⟩,
                          ⟨some 35, .binOp .lss E.tW (.tmp 32) (.tmp 34) E.tW, E.tO, "", #[⟨9, .data⟩, ⟨11, .data⟩, ⟨4, .guard⟩], some (4, true)⟩,
                          ⟨some 36, .pick (.tmp 27) (.tmp 35) (.const (.bool false)), E.tO, "", #[⟨4, .data⟩, ⟨12, .data⟩], none⟩]),
                        (.cond (.tmp 36)
                          .skip
                          (.exit 2))]),
                      (.block 3 (rg [(oQ 37 (.move (.tmp 9)) E.tI),
                          (oQ 38 (.binOp .add E.tI (.tmp 37) (.const (.int .i64 1)) E.tI) E.tI),
                          (oQ 9 (.assign (.tmp 38)) E.tI)]))]))),
                (sq [(rgd [(oQ 39 (.fieldAddr E.tUnk (.tmp 8) 0) 0),
                    ⟨some 40, .load E.tW (.tmp 39), E.tW, "", #[⟨0, .data⟩], none⟩,
                    (oQ 41 (.move (.tmp 5)) E.tW),
                    ⟨some 42, .binOp .lss E.tW (.tmp 40) (.tmp 41) E.tW, E.tO, "", #[⟨1, .data⟩, ⟨2, .data⟩], none⟩,
                    ⟨some 43, .move (.tmp 42), E.tO, "", #[⟨3, .data⟩], none⟩,
                    ⟨some 44, .move (.tmp 9), E.tI, "", #[⟨4, .guard⟩], some (4, false)⟩,
                    ⟨some 45, .move (.tmp 6), E.tK, "", #[⟨4, .guard⟩], some (4, false)⟩,
                    ⟨some 46, .call { callee := .builtin .len, args := #[(.tmp 45)], argTypes := #[E.tK] }, E.tI, "", #[⟨6, .data⟩, ⟨4, .guard⟩], some (4, false)⟩,
                    ⟨some 47, .binOp .lss E.tI (.tmp 44) (.tmp 46) E.tI, E.tO, "", #[⟨5, .data⟩, ⟨7, .data⟩, ⟨4, .guard⟩], some (4, false)⟩,
                    ⟨some 48, .move (.tmp 47), E.tO, "", #[⟨8, .data⟩, ⟨4, .chain⟩, ⟨4, .guard⟩], some (4, false)⟩,
                    ⟨some 49, .move (.tmp 6), E.tK, "", #[⟨9, .guard⟩], some (9, true)⟩,
                    ⟨some 50, .move (.tmp 9), E.tI, "", #[⟨9, .guard⟩], some (9, true)⟩,
                    ⟨some 51, .indexAddr E.tK (.tmp 49) (.tmp 50), 0, "", #[⟨10, .data⟩, ⟨11, .data⟩, ⟨9, .guard⟩], some (9, true)⟩,
                    ⟨some 52, .fieldAddr E.tUnk (.tmp 51) 0, 0, "", #[⟨12, .data⟩, ⟨9, .guard⟩], some (9, true)⟩,
                    ⟨some 53, .load E.tW (.tmp 52), E.tW, "", #[⟨13, .data⟩, ⟨9, .guard⟩], some (9, true)⟩,
                    ⟨some 54, .fieldAddr E.tUnk (.tmp 8) 0, 0, "", #[⟨9, .guard⟩], some (9, true)⟩,
                    ⟨some 55, .load E.tW (.tmp 54), E.tW, "", #[⟨15, .data⟩, ⟨9, .guard⟩], some (9, true)⟩,
                    ⟨some 56, .binOp .eql E.tW (.tmp 53) (.tmp 55) E.tW, E.tO, "", #[⟨14, .data⟩, ⟨16, .data⟩, ⟨9, .guard⟩], some (9, true)⟩,
                    ⟨some 57, .pick (.tmp 48) (.tmp 56) (.const (.bool false)), E.tO, "", #[⟨9, .data⟩, ⟨17, .data⟩, ⟨4, .guard⟩], some (4, false)⟩,
                    ⟨some 58, .pick (.tmp 43) (.const (.bool true)) (.tmp 57), E.tO, "", #[⟨4, .data⟩, ⟨18, .data⟩], none⟩]),
                  (.cond (.tmp 58)
                    (.exit 1)
                    .skip)]),
                (rg [(oQ 59 (.move (.tmp 6)) E.tK),
                  (oQ 60 (.build E.tUnk #[]) E.tUnk),
                  (oQ 61 (.buildSlice E.tK 1 #[(0, (.tmp 60))]) E.tK),
                  (oQ 62 (.call { callee := .builtin .append, args := #[(.tmp 59), (.tmp 61)], argTypes := #[E.tK, E.tK] }) E.tK),
                  (oQ 6 (.assign (.tmp 62)) E.tK)]),
                (sq [(rg [(oQ 63 (.move (.tmp 6)) E.tK),
                    (oQ 64 (.call { callee := .builtin .len, args := #[(.tmp 63)], argTypes := #[E.tK] }) E.tI),
                    (oQ 65 (.binOp .sub E.tI (.tmp 64) (.const (.int .i64 1)) E.tI) E.tI),
                    (oQ 10 (.assign (.tmp 65)) E.tI)]),
                  (.block 4 (.loop (sq [(sq [(rg [(oQ 66 (.move (.tmp 10)) E.tI),
                            (oQ 67 (.move (.tmp 9)) E.tI),
                            (oQ 68 (.binOp .gtr E.tI (.tmp 66) (.tmp 67) E.tI) E.tO)]),
                          (.cond (.tmp 68)
                            .skip
                            (.exit 4))]),
                        (.block 5 (rg [(oQ 71 (.move (.tmp 6)) E.tK),
                            (oQ 72 (.move (.tmp 10)) E.tI),
                            (oQ 73 (.move (.tmp 6)) E.tK),
                            (oQ 74 (.move (.tmp 10)) E.tI),
                            (oQ 75 (.binOp .sub E.tI (.tmp 74) (.const (.int .i64 1)) E.tI) E.tI),
                            (oQ 76 (.indexAddr E.tK (.tmp 73) (.tmp 75)) 0),
                            (oQ 77 (.load E.tUnk (.tmp 76)) E.tUnk),
                            (oQ 78 (.indexAddr E.tK (.tmp 71) (.tmp 72)) 0),
                            ⟨none, .store E.tUnk (.tmp 78) (.tmp 77), 0, "", #[], none⟩])),
                        (rg [(oQ 69 (.move (.tmp 10)) E.tI),
                          (oQ 70 (.binOp .sub E.tI (.tmp 69) (.const (.int .i64 1)) E.tI) E.tI),
                          (oQ 10 (.assign (.tmp 70)) E.tI)])])))]),
                (rg [(oQ 79 (.move (.tmp 6)) E.tK),
                  (oQ 80 (.move (.tmp 9)) E.tI),
                  (oQ 81 (.load E.tUnk (.tmp 8)) E.tUnk),
                  (oQ 82 (.indexAddr E.tK (.tmp 79) (.tmp 80)) 0),
                  ⟨none, .store E.tUnk (.tmp 82) (.tmp 81), 0, "", #[], none⟩])])),
            (rg [(oQ 83 (.binOp .add E.tI (.tmp 19) (.const (.int .i64 1)) E.tI) E.tI),
              (oQ 19 (.move (.tmp 83)) E.tI)])])))]),
    (rg [(oQ 84 (.move (.tmp 6)) E.tK),
      (oQ 4 (.assign (.tmp 84)) E.tK)]),
    .ret])
def c_sPart (E : Env) : Code :=
 (sq [(rg [(oQ 7 (.box E.tT (.tmp 3)) 0),
   (oQ 8 (.assign (.const (.slice none 0 0))) E.tB)]),
  (rg [(oQ 9 (.assign (.const (.slice none 0 0))) E.tB),
   (oQ 10 (.assign (.const (.slice none 0 0))) E.tB)]),
  (rg [(oQ 11 (.assign (.const (.int .i64 0))) E.tI)]),
  (sq [(rg [(oQ 21 (.move (.tmp 0)) E.tFlds),
    (oQ 22 (.call { callee := .builtin .len, args := #[(.tmp 21)], argTypes := #[E.tFlds] }) E.tI),
    (oQ 23 (.move (.const (.int .i64 0))) E.tI)]),
   (.block 0 (.loop (sq [(rg [(oQ 24 (.binOp .lss E.tI (.tmp 23) (.tmp 22) E.tI) 0)]),
      (.cond (.tmp 24)
       .skip
       (.exit 0)),
      (.block 1 (sq [(rg [(oQ 25 (.move (.tmp 23)) E.tI),
         (oQ 26 (.indexAddr E.tFlds (.tmp 21) (.tmp 23)) 0),
         (oQ 27 (.load E.tFld (.tmp 26)) E.tFld),
         (oQ 13 (.alloc E.tFld) 0),
         (oQ 12 (.assign (.tmp 25)) E.tI),
         ⟨none, .store E.tFld (.tmp 13) (.tmp 27), 0, "", #[], none⟩]),
        (rg [(oQ 28 (.fieldAddr E.tFld (.tmp 13) 4) 0),
         (oQ 29 (.load E.tI (.tmp 28)) E.tI),
         (oQ 30 (.binOp .lss E.tI (.tmp 29) (.const (.int .i64 0)) E.tI) E.tO),
         (oQ 31 (.move (.tmp 30)) E.tO),
         ⟨some 32, .load E.tFld (.tmp 13), E.tFld, "", #[], some (3, true)⟩,
         ⟨some 33, .move (.tmp 1), E.tI, "", #[], some (3, true)⟩,
         ⟨some 34, .call { callee := .value (.func E.sHas), args := #[(.tmp 32), (.tmp 33)], argTypes := #[E.tFld, E.tI] }, E.tO, "", #[], some (3, true)⟩,
         (oQ 35 (.pick (.tmp 31) (.tmp 34) (.const (.bool false))) E.tO)]),
        (.cond (.tmp 35)
         (rgd [(oQ 36 (.move (.tmp 9)) E.tB),
          (oQ 37 (.load E.tFld (.tmp 13)) E.tFld),
          (oQ 38 (.move (.tmp 1)) E.tI),
          (oQ 39 (.move (.tmp 2)) E.tO),
          (oQ 40 (.load E.tT (.tmp 7)) E.tT),
          (oQ 41 (.move (.tmp 12)) E.tI),
          ⟨some 42, .call { callee := .value (.func E.sAt), args := #[(.tmp 40), (.tmp 41)], argTypes := #[E.tT, E.tI] }, E.tT, "", #[⟨4, .data⟩, ⟨5, .data⟩], none⟩,
          ⟨some 43, .call { callee := .value (.func E.sField), args := #[(.tmp 37), (.tmp 38), (.tmp 39), (.tmp 42)], argTypes := #[E.tFld, E.tI, E.tO, E.tT] }, E.tB, "", #[⟨1, .data⟩, ⟨2, .data⟩, ⟨3, .data⟩, ⟨6, .data⟩, ⟨6, .chain⟩], none⟩,
          ⟨some 44, .call { callee := .builtin .append, args := #[(.tmp 36), (.tmp 43)], argTypes := #[E.tB, E.tB] }, E.tB, "", #[⟨0, .data⟩, ⟨7, .data⟩, ⟨7, .chain⟩], none⟩,
          ⟨some 9, .assign (.tmp 44), E.tB, "", #[⟨8, .data⟩, ⟨8, .chain⟩, ⟨0, .phase⟩, ⟨1, .phase⟩, ⟨2, .phase⟩, ⟨3, .phase⟩, ⟨4, .phase⟩, ⟨5, .phase⟩, ⟨6, .phase⟩, ⟨7, .phase⟩, ⟨8, .phase⟩], none⟩])
         .skip)])),
      (rg [(oQ 45 (.binOp .add E.tI (.tmp 23) (.const (.int .i64 1)) E.tI) E.tI),
       (oQ 23 (.move (.tmp 45)) E.tI)])])))]),
  (sq [(rg [(oQ 46 (.move (.tmp 2)) E.tO),
    (oQ 47 (.unOp .not E.tO (.tmp 46)) E.tO)]),
   (.cond (.tmp 47)
    (sq [(rg [(oQ 48 (.move (.tmp 9)) E.tB),
      (oQ 8 (.assign (.tmp 48)) E.tB)]),
     .ret])
    .skip)]),
  (sq [(rg [(oQ 49 (.move (.tmp 0)) E.tFlds),
    (oQ 50 (.call { callee := .value (.func E.sKnown), args := #[(.tmp 49)], argTypes := #[E.tFlds] }) E.tW),
    (oQ 51 (.convert E.tW E.tI (.tmp 50)) E.tI),
    (oQ 52 (.move (.const (.int .i64 0))) E.tI)]),
   (.block 2 (.loop (sq [(rg [(oQ 53 (.binOp .lss E.tI (.tmp 52) (.tmp 51) E.tI) E.tO)]),
      (.cond (.tmp 53)
       .skip
       (.exit 2)),
      (.block 3 (sq [(rg [(oQ 54 (.move (.tmp 52)) E.tI),
         (oQ 14 (.assign (.tmp 54)) E.tI)]),
        (rg [(oQ 55 (.move (.tmp 0)) E.tFlds),
         (oQ 56 (.call { callee := .builtin .len, args := #[(.tmp 55)], argTypes := #[E.tFlds] }) E.tI),
         (oQ 57 (.move (.const (.int .i64 0))) E.tI)]),
        (.block 4 (.loop (sq [(rg [(oQ 58 (.binOp .lss E.tI (.tmp 57) (.tmp 56) E.tI) 0)]),
           (.cond (.tmp 58)
            .skip
            (.exit 4)),
           (.block 5 (sq [(rg [(oQ 59 (.move (.tmp 57)) E.tI),
              (oQ 60 (.indexAddr E.tFlds (.tmp 55) (.tmp 57)) 0),
              (oQ 61 (.load E.tFld (.tmp 60)) E.tFld),
              (oQ 16 (.alloc E.tFld) 0),
              (oQ 15 (.assign (.tmp 59)) E.tI),
              ⟨none, .store E.tFld (.tmp 16) (.tmp 61), 0, "", #[], none⟩]),
             (rgd [(oQ 62 (.fieldAddr E.tFld (.tmp 16) 4) 0),
              ⟨some 63, .load E.tI (.tmp 62), E.tI, "", #[⟨0, .data⟩], none⟩,
              (oQ 64 (.move (.tmp 14)) E.tI),
              ⟨some 65, .binOp .eql E.tI (.tmp 63) (.tmp 64) E.tI, E.tO, "", #[⟨1, .data⟩, ⟨2, .data⟩], none⟩,
              ⟨some 66, .move (.tmp 65), E.tO, "", #[⟨3, .data⟩], none⟩,
              ⟨some 67, .load E.tFld (.tmp 16), E.tFld, "", #[⟨4, .guard⟩], some (4, true)⟩,
              ⟨some 68, .load E.tT (.tmp 7), E.tT, "", #[⟨4, .guard⟩], some (4, true)⟩,
              ⟨some 69, .move (.tmp 15), E.tI, "", #[⟨4, .guard⟩], some (4, true)⟩,
              ⟨some 70, .call { callee := .value (.func E.sAt), args := #[(.tmp 68), (.tmp 69)], argTypes := #[E.tT, E.tI] }, E.tT, "", #[⟨6, .data⟩, ⟨7, .data⟩, ⟨4, .chain⟩, ⟨4, .guard⟩], some (4, true)⟩,
              ⟨some 71, .call { callee := .value (.func E.sUsual), args := #[(.tmp 67), (.tmp 70)], argTypes := #[E.tFld, E.tT] }, E.tO, "", #[⟨5, .data⟩, ⟨8, .data⟩, ⟨8, .chain⟩, ⟨4, .guard⟩], some (4, true)⟩,
              ⟨some 72, .unOp .not E.tO (.tmp 71), E.tO, "", #[⟨9, .data⟩, ⟨4, .guard⟩], some (4, true)⟩,
              ⟨some 73, .pick (.tmp 66) (.tmp 72) (.const (.bool false)), E.tO, "", #[⟨4, .data⟩, ⟨10, .data⟩], none⟩]),
             (.cond (.tmp 73)
              (sq [(rgd [(oQ 74 (.load E.tFld (.tmp 16)) E.tFld),
                (oQ 75 (.move (.tmp 1)) E.tI),
                (oQ 76 (.move (.tmp 2)) E.tO),
                (oQ 77 (.load E.tT (.tmp 7)) E.tT),
                (oQ 78 (.move (.tmp 15)) E.tI),
                ⟨some 79, .call { callee := .value (.func E.sAt), args := #[(.tmp 77), (.tmp 78)], argTypes := #[E.tT, E.tI] }, E.tT, "", #[⟨3, .data⟩, ⟨4, .data⟩], none⟩,
                ⟨some 80, .call { callee := .value (.func E.sField), args := #[(.tmp 74), (.tmp 75), (.tmp 76), (.tmp 79)], argTypes := #[E.tFld, E.tI, E.tO, E.tT] }, E.tB, "", #[⟨0, .data⟩, ⟨1, .data⟩, ⟨2, .data⟩, ⟨5, .data⟩, ⟨5, .chain⟩], none⟩,
                ⟨some 17, .assign (.tmp 80), E.tB, "", #[⟨6, .data⟩, ⟨6, .chain⟩, ⟨0, .phase⟩, ⟨1, .phase⟩, ⟨2, .phase⟩, ⟨3, .phase⟩, ⟨4, .phase⟩, ⟨5, .phase⟩, ⟨6, .phase⟩], none⟩]),
               (rg [(oQ 81 (.move (.tmp 10)) E.tB),
                (oQ 82 (.move (.tmp 14)) E.tI),
                (oQ 83 (.convert E.tI E.tU64 (.tmp 82)) E.tU64),
                (oQ 84 (.call { callee := .value (.func E.sUvar), args := #[(.tmp 83)], argTypes := #[E.tU64] }) E.tB),
                (oQ 85 (.call { callee := .builtin .append, args := #[(.tmp 81), (.tmp 84)], argTypes := #[E.tB, E.tB] }) E.tB),
                (oQ 86 (.move (.tmp 17)) E.tB),
                (oQ 87 (.call { callee := .builtin .len, args := #[(.tmp 86)], argTypes := #[E.tB] }) E.tI),
                (oQ 88 (.convert E.tI E.tU64 (.tmp 87)) E.tU64),
                (oQ 89 (.call { callee := .value (.func E.sUvar), args := #[(.tmp 88)], argTypes := #[E.tU64] }) E.tB),
                (oQ 90 (.call { callee := .builtin .append, args := #[(.tmp 85), (.tmp 89)], argTypes := #[E.tB, E.tB] }) E.tB),
                (oQ 91 (.move (.tmp 17)) E.tB),
                (oQ 92 (.call { callee := .builtin .append, args := #[(.tmp 90), (.tmp 91)], argTypes := #[E.tB, E.tB] }) E.tB),
                (oQ 10 (.assign (.tmp 92)) E.tB)]),
               (rg [(oQ 93 (.move (.tmp 11)) E.tI),
                (oQ 94 (.binOp .add E.tI (.tmp 93) (.const (.int .i64 1)) E.tI) E.tI),
                (oQ 11 (.assign (.tmp 94)) E.tI)])])
              .skip)])),
           (rg [(oQ 95 (.binOp .add E.tI (.tmp 57) (.const (.int .i64 1)) E.tI) E.tI),
            (oQ 57 (.move (.tmp 95)) E.tI)])])))])),
      (rg [(oQ 96 (.binOp .add E.tI (.tmp 52) (.const (.int .i64 1)) E.tI) E.tI),
       (oQ 52 (.move (.tmp 96)) E.tI)])])))]),
  (sq [(rg [(oQ 97 (.move (.tmp 0)) E.tFlds),
    (oQ 98 (.fieldAddr E.tT (.tmp 7) 4) 0),
    (oQ 99 (.load E.tK (.tmp 98)) E.tK),
    (oQ 100 (.call { callee := .value (.func E.sUnknown), args := #[(.tmp 97), (.tmp 99)], argTypes := #[E.tFlds, E.tK] }) E.tK),
    (oQ 101 (.call { callee := .builtin .len, args := #[(.tmp 100)], argTypes := #[E.tK] }) E.tI),
    (oQ 102 (.move (.const (.int .i64 0))) E.tI)]),
   (.block 6 (.loop (sq [(rg [(oQ 103 (.binOp .lss E.tI (.tmp 102) (.tmp 101) E.tI) 0)]),
      (.cond (.tmp 103)
       .skip
       (.exit 6)),
      (.block 7 (sq [(rg [(oQ 104 (.indexAddr E.tK (.tmp 100) (.tmp 102)) 0),
         (oQ 105 (.load E.tUnk (.tmp 104)) E.tUnk),
         (oQ 19 (.alloc E.tUnk) 0),
         ⟨none, .store E.tUnk (.tmp 19) (.tmp 105), 0, "", #[], none⟩]),
        (rg [(oQ 106 (.fieldAddr E.tUnk (.tmp 19) 1) 0),
         (oQ 107 (.load E.tB (.tmp 106)) E.tB),
         (oQ 108 (.call { callee := .value (.func E.sWhole), args := #[(.tmp 107)], argTypes := #[E.tB] }) E.tB),
         (oQ 20 (.assign (.tmp 108)) E.tB)]),
        (rg [(oQ 109 (.move (.tmp 10)) E.tB),
         (oQ 110 (.fieldAddr E.tUnk (.tmp 19) 0) 0),
         (oQ 111 (.load E.tW (.tmp 110)) E.tW),
         (oQ 112 (.convert E.tW E.tU64 (.tmp 111)) E.tU64),
         (oQ 113 (.call { callee := .value (.func E.sUvar), args := #[(.tmp 112)], argTypes := #[E.tU64] }) E.tB),
         (oQ 114 (.call { callee := .builtin .append, args := #[(.tmp 109), (.tmp 113)], argTypes := #[E.tB, E.tB] }) E.tB),
         (oQ 115 (.move (.tmp 20)) E.tB),
         (oQ 116 (.call { callee := .builtin .len, args := #[(.tmp 115)], argTypes := #[E.tB] }) E.tI),
         (oQ 117 (.convert E.tI E.tU64 (.tmp 116)) E.tU64),
         (oQ 118 (.call { callee := .value (.func E.sUvar), args := #[(.tmp 117)], argTypes := #[E.tU64] }) E.tB),
         (oQ 119 (.call { callee := .builtin .append, args := #[(.tmp 114), (.tmp 118)], argTypes := #[E.tB, E.tB] }) E.tB),
         (oQ 120 (.move (.tmp 20)) E.tB),
         (oQ 121 (.call { callee := .builtin .append, args := #[(.tmp 119), (.tmp 120)], argTypes := #[E.tB, E.tB] }) E.tB),
         (oQ 10 (.assign (.tmp 121)) E.tB)]),
        (rg [(oQ 122 (.move (.tmp 11)) E.tI),
         (oQ 123 (.binOp .add E.tI (.tmp 122) (.const (.int .i64 1)) E.tI) E.tI),
         (oQ 11 (.assign (.tmp 123)) E.tI)])])),
      (rg [(oQ 124 (.binOp .add E.tI (.tmp 102) (.const (.int .i64 1)) E.tI) E.tI),
       (oQ 102 (.move (.tmp 124)) E.tI)])])))]),
  (rg [(oQ 125 (.move (.tmp 9)) E.tB),
   (oQ 126 (.move (.tmp 11)) E.tI),
   (oQ 127 (.convert E.tI E.tU64 (.tmp 126)) E.tU64),
   (oQ 128 (.call { callee := .value (.func E.sUvar), args := #[(.tmp 127)], argTypes := #[E.tU64] }) E.tB),
   (oQ 129 (.call { callee := .builtin .append, args := #[(.tmp 125), (.tmp 128)], argTypes := #[E.tB, E.tB] }) E.tB),
   (oQ 130 (.move (.tmp 10)) E.tB),
   (oQ 131 (.call { callee := .builtin .append, args := #[(.tmp 129), (.tmp 130)], argTypes := #[E.tB, E.tB] }) E.tB),
   (oQ 8 (.assign (.tmp 131)) E.tB)]),
  .ret])
def c_sDefault (E : Env) : Code :=
 (sq [(rg [(oQ 2 (.alloc E.tT) 0)]),
  (rg [(oQ 3 (.alloc E.tT) 0)]),
  (sq [(rg [(oQ 7 (.move (.tmp 0)) E.tFlds),
    (oQ 8 (.call { callee := .builtin .len, args := #[(.tmp 7)], argTypes := #[E.tFlds] }) E.tI),
    (oQ 9 (.move (.const (.int .i64 0))) E.tI)]),
   (.block 0 (.loop (sq [(rg [(oQ 10 (.binOp .lss E.tI (.tmp 9) (.tmp 8) E.tI) 0)]),
      (.cond (.tmp 10)
       .skip
       (.exit 0)),
      (.block 1 (sq [(rg [(oQ 11 (.indexAddr E.tFlds (.tmp 7) (.tmp 9)) 0),
         (oQ 12 (.load E.tFld (.tmp 11)) E.tFld),
         (oQ 5 (.alloc E.tFld) 0),
         ⟨none, .store E.tFld (.tmp 5) (.tmp 12), 0, "", #[], none⟩]),
        (rg [(oQ 13 (.fieldAddr E.tFld (.tmp 5) 5) 0),
         (oQ 14 (.load E.tI64 (.tmp 13)) E.tI64),
         (oQ 15 (.fieldAddr E.tFld (.tmp 5) 3) 0),
         (oQ 16 (.load E.tI (.tmp 15)) E.tI),
         (oQ 17 (.binOp .geq E.tI (.tmp 16) (.const (.int .i64 0)) E.tI) E.tO),
         (oQ 18 (.build E.tT #[(0, (.tmp 14)), (2, (.tmp 17))]) E.tT),
         (oQ 6 (.alloc E.tT) 0),
         ⟨none, .store E.tT (.tmp 6) (.tmp 18), 0, "", #[], none⟩]),
        (sq [(rg [(oQ 19 (.fieldAddr E.tFld (.tmp 5) 0) 0),
          (oQ 20 (.load E.tI (.tmp 19)) E.tI),
          (oQ 21 (.binOp .eql E.tI (.tmp 20) (.const (.int .i64 10)) E.tI) E.tO)]),
         (.cond (.tmp 21)
          (rg [(oQ 22 (.fieldAddr E.tFld (.tmp 5) 7) 0),
           (oQ 23 (.load E.tFlds (.tmp 22)) E.tFlds),
           (oQ 24 (.call { callee := .value (.func E.sDefault), args := #[(.tmp 23)], argTypes := #[E.tFlds] }) E.tT),
           (oQ 25 (.field E.tT (.tmp 24) 3) E.tS),
           (oQ 26 (.fieldAddr E.tT (.tmp 6) 3) 0),
           ⟨none, .store E.tS (.tmp 26) (.tmp 25), 0, "", #[], none⟩])
          .skip)]),
        (rg [(oQ 27 (.fieldAddr E.tT (.tmp 3) 3) 0),
         (oQ 28 (.load E.tS (.tmp 27)) E.tS),
         (oQ 29 (.load E.tT (.tmp 6)) E.tT),
         (oQ 30 (.buildSlice E.tS 1 #[(0, (.tmp 29))]) E.tS),
         (oQ 31 (.call { callee := .builtin .append, args := #[(.tmp 28), (.tmp 30)], argTypes := #[E.tS, E.tS] }) E.tS),
         (oQ 32 (.fieldAddr E.tT (.tmp 3) 3) 0),
         ⟨none, .store E.tS (.tmp 32) (.tmp 31), 0, "", #[], none⟩])])),
      (rg [(oQ 33 (.binOp .add E.tI (.tmp 9) (.const (.int .i64 1)) E.tI) E.tI),
       (oQ 9 (.move (.tmp 33)) E.tI)])])))]),
  (rg [(oQ 34 (.load E.tT (.tmp 3)) E.tT),
   ⟨none, .store E.tT (.tmp 2) (.tmp 34), 0, "", #[], none⟩]),
  .ret])
def c_sWrite (E : Env) : Code :=
 (sq [(rg [(oQ 3 (.box E.tMsg (.tmp 0)) 0),
   (oQ 5 (.box E.tT (.tmp 2)) 0),
   (oQ 6 (.assign (.const (.slice none 0 0))) E.tB)]),
  (rg [(oQ 7 (.fieldAddr E.tMsg (.tmp 3) 0) 0),
   (oQ 8 (.load E.tFlds (.tmp 7)) E.tFlds),
   (oQ 9 (.move (.tmp 1)) E.tI),
   (oQ 10 (.fieldAddr E.tMsg (.tmp 3) 1) 0),
   (oQ 11 (.load E.tI (.tmp 10)) E.tI),
   (oQ 12 (.binOp .geq E.tI (.tmp 11) (.const (.int .i64 0)) E.tI) E.tO),
   (oQ 13 (.move (.tmp 12)) E.tO),
   ⟨some 14, .move (.tmp 1), E.tI, "", #[], some (6, true)⟩,
   ⟨some 15, .fieldAddr E.tMsg (.tmp 3) 1, 0, "", #[], some (6, true)⟩,
   ⟨some 16, .load E.tI (.tmp 15), E.tI, "", #[], some (6, true)⟩,
   ⟨some 17, .binOp .geq E.tI (.tmp 14) (.tmp 16) E.tI, E.tO, "", #[], some (6, true)⟩,
   (oQ 18 (.pick (.tmp 13) (.tmp 17) (.const (.bool false))) E.tO),
   (oQ 19 (.load E.tT (.tmp 5)) E.tT),
   (oQ 20 (.call { callee := .value (.func E.sPart), args := #[(.tmp 8), (.tmp 9), (.tmp 18), (.tmp 19)], argTypes := #[E.tFlds, E.tI, E.tO, E.tT] }) E.tB),
   (oQ 6 (.assign (.tmp 20)) E.tB)]),
  .ret])
def c_sSame (E : Env) : Code :=
 (sq [(rg [(oQ 4 (.assign (.const (.bool false))) E.tO)]),
  (sq [(rg [(oQ 6 (.move (.tmp 0)) E.tB),
    (oQ 7 (.call { callee := .builtin .len, args := #[(.tmp 6)], argTypes := #[E.tB] }) E.tI),
    (oQ 8 (.move (.tmp 1)) E.tB),
    (oQ 9 (.call { callee := .builtin .len, args := #[(.tmp 8)], argTypes := #[E.tB] }) E.tI),
    (oQ 10 (.binOp .neq E.tI (.tmp 7) (.tmp 9) E.tI) E.tO)]),
   (.cond (.tmp 10)
    (sq [(rg [(oQ 4 (.assign (.const (.bool false))) E.tO)]),
     .ret])
    .skip)]),
  (sq [(rg [(oQ 11 (.move (.tmp 0)) E.tB),
    (oQ 12 (.call { callee := .builtin .len, args := #[(.tmp 11)], argTypes := #[E.tB] }) E.tI),
    (oQ 13 (.move (.const (.int .i64 0))) E.tI)]),
   (.block 0 (.loop (sq [(rg [(oQ 14 (.binOp .lss E.tI (.tmp 13) (.tmp 12) E.tI) 0)]),
      (.cond (.tmp 14)
       .skip
       (.exit 0)),
      (.block 1 (sq [(rg [(oQ 15 (.move (.tmp 13)) E.tI),
         (oQ 5 (.assign (.tmp 15)) E.tI)]),
        (rgd [(oQ 16 (.move (.tmp 0)) E.tB),
         (oQ 17 (.move (.tmp 5)) E.tI),
         ⟨some 18, .indexAddr E.tB (.tmp 16) (.tmp 17), 0, "", #[⟨0, .data⟩, ⟨1, .data⟩], none⟩,
         ⟨some 19, .load E.tU8 (.tmp 18), E.tU8, "", #[⟨2, .data⟩], none⟩,
         (oQ 20 (.move (.tmp 1)) E.tB),
         (oQ 21 (.move (.tmp 5)) E.tI),
         ⟨some 22, .indexAddr E.tB (.tmp 20) (.tmp 21), 0, "", #[⟨4, .data⟩, ⟨5, .data⟩], none⟩,
         ⟨some 23, .load E.tU8 (.tmp 22), E.tU8, "", #[⟨6, .data⟩], none⟩,
         ⟨some 24, .binOp .neq E.tU8 (.tmp 19) (.tmp 23) E.tU8, E.tO, "", #[⟨3, .data⟩, ⟨7, .data⟩], none⟩]),
        (.cond (.tmp 24)
         (sq [(rg [(oQ 4 (.assign (.const (.bool false))) E.tO)]),
          .ret])
         .skip)])),
      (rg [(oQ 25 (.binOp .add E.tI (.tmp 13) (.const (.int .i64 1)) E.tI) E.tI),
       (oQ 13 (.move (.tmp 25)) E.tI)])])))]),
  (rg [(oQ 4 (.assign (.const (.bool true))) E.tO)]),
  .ret])
def c_lVersion (E : Env) : Code :=
 (sq [(rg [(oQ 4 (.assign (.const (.int .i64 0))) E.tI)]),
  (rg [(oQ 5 (.move (.tmp 0)) E.tU8),
   (oQ 6 (.convert E.tU8 E.tI (.tmp 5)) E.tI),
   (oQ 7 (.move (.tmp 1)) E.tI),
   (oQ 8 (.binOp .add E.tI (.tmp 7) (.const (.int .i64 1)) E.tI) E.tI),
   (oQ 9 (.binOp .rem E.tI (.tmp 6) (.tmp 8) E.tI) E.tI),
   (oQ 4 (.assign (.tmp 9)) E.tI)]),
  .ret])
end Go.Km
namespace Go.Km
open Go Go.RowKit
inductive D where
 | int (n : Int)
 | bytes (o : Option (List UInt8))
 | list (o : Option (List D))
 | obj (l : List D) (tags : List (Nat × List UInt8))
 deriving Inhabited
def bv (b : UInt8) : Value := .int .u8 b.toNat
def be : Nat → Int → List UInt8
 | 0, _ => []
 | k + 1, n => UInt8.ofNat ((n.fdiv (256 ^ k)) % 256).toNat :: be k n
def uvF : Nat → Nat → List UInt8
 | 0, n => [UInt8.ofNat n]
 | f + 1, n => if n < 128 then [UInt8.ofNat n] else UInt8.ofNat (n % 128 + 128) :: uvF f (n / 128)
def uvar (n : Nat) : List UInt8 := uvF 9 n
def big : Nat := 2147483000
def Scal.wr : Scal → Int → List UInt8
 | .bool, n => [if n != 0 then 1 else 0]
 | .i8, n => be 1 n
 | .i16, n | .u16, n => be 2 n
 | .i32, n => be 4 n
 | .i64, n => be 8 n
 | .f64, n => be 8 n.toNat
def wrStr (fx : Bool) (l : List UInt8) : List UInt8 := (if fx then uvar (l.length + 1) else be 2 l.length) ++ l
def wrNStr (fx : Bool) : Option (List UInt8) → List UInt8
 | none => if fx then [0] else be 2 (-1)
 | some l => wrStr fx l
def wrBytes (fx : Bool) (l : List UInt8) : List UInt8 := (if fx then uvar (l.length + 1) else be 4 l.length) ++ l
def wrNBytes (fx : Bool) : Option (List UInt8) → List UInt8
 | none => if fx then [0] else be 4 (-1)
 | some l => wrBytes fx l
def wrLen (fx : Bool) (n : Nat) : List UInt8 := if fx then uvar (n + 1) else be 4 n
def wrNull (fx : Bool) : List UInt8 := if fx then [0] else be 4 (-1)
def wrTag (x : Nat × List UInt8) : List UInt8 := uvar x.1 ++ uvar x.2.length ++ x.2
def wrTags (l : List (Nat × List UInt8)) : List UInt8 := uvar l.length ++ (l.map wrTag).flatten
def Scal.ok : Scal → Int → Prop
 | .bool, n => n = 0 ∨ n = 1
 | .i8, n => -128 ≤ n ∧ n ≤ 127
 | .i16, n => -32768 ≤ n ∧ n ≤ 32767
 | .u16, n => 0 ≤ n ∧ n ≤ 65535
 | .i32, n => -2147483648 ≤ n ∧ n ≤ 2147483647
 | .i64, n => -9223372036854775808 ≤ n ∧ n ≤ 9223372036854775807
 | .f64, n => 0 ≤ n ∧ n < 18446744073709551616
def TagsOk (tags : List (Nat × List UInt8)) : Prop := tags.Pairwise (fun x y => x.1 < y.1) ∧ ∀ x ∈ tags, x.1 < 4294967296
def Ver.has (ver : Nat) : Ver → Bool
 | .all => true
 | .ge n => decide (n ≤ ver)
 | .btw n m => decide (n ≤ ver) && decide (ver ≤ m)
mutual
def Ty.wr (fx : Bool) (ver : Nat) : Ty → D → List UInt8
 | .scal s _, .int n | .named s _ _, .int n => s.wr n
 | .uuid, .bytes (some l) => l
 | .text, .bytes (some l) => wrStr fx l
 | .ntext, .bytes o => wrNStr fx o
 | .ntextFrom N, .bytes o => if ver < N then wrStr fx (o.getD []) else wrNStr fx o
 | .bytes, .bytes o => wrBytes fx (o.getD [])
 | .nbytes, .bytes o => wrNBytes fx o
 | .list _ null _, .list none => if null.isSome then wrNull fx else wrLen fx 0
 | .list _ _ e, .list (some l) => wrLen fx l.length ++ (l.map fun d => e.wr fx ver d).flatten
 | .struct _ _ _ fs, .obj l tags => fs.wr fx ver l tags
 | .nstruct _ _ _ _ _, .list none => [255]
 | .nstruct _ _ _ fs _, .list (some [.obj l tags]) => 1 :: fs.wr fx ver l tags
 | _, _ => []
def Flds.wr (fx : Bool) (ver : Nat) : Flds → List D → List (Nat × List UInt8) → List UInt8
 | .nil _, _, tags => if fx then wrTags tags else []
 | .cons v t r, d :: l, tags => (if v.has ver then t.wr fx ver d else []) ++ r.wr fx ver l tags
 | .cons _ _ _, [], _ => []
end
mutual
def Ty.size : Ty → Nat
 | .uuid => 16
 | .struct _ _ _ fs => fs.size
 | _ => 1
def Flds.size : Flds → Nat
 | .nil tags => if tags then 1 else 0
 | .cons _ t r => t.size + r.size
end
structure Sb where
 b : Nat
 T : List (Nat × List UInt8) → Prop
def OctRep (w : World) (sb : Sb) (B : Nat) (v : Value) (l : List UInt8) : Prop :=
 (v = .slice none 0 0 ∧ l = []) ∨ ∃ c o cap, v = .slice (some ⟨c, o, none⟩) l.length cap ∧ (c = sb.b ∨ B ≤ c) ∧ c < w.heap.size ∧ Cells w c o (l.map bv)
def TagsRep (w : World) (sb : Sb) (B : Nat) (v : Value) (tags : List (Nat × List UInt8)) : Prop :=
 TagsOk tags ∧ sb.T tags ∧ ((v = .map none ∧ tags = []) ∨
 ∃ q es clock, v = .map (some q) ∧ B ≤ q ∧ q < w.heap.size ∧ w.heap[q]? = some (.map es clock) ∧ (∀ e ∈ es.toList, e.born < clock) ∧ (es.toList.map (·.born)).Nodup ∧
  ∃ l : List (Nat × List UInt8), l.Perm tags ∧ l.length = es.size ∧
   ∀ (i : Nat) (x : Nat × List UInt8), l[i]? = some x → ∃ e : MapEntry, es[i]? = some e ∧ e.key = .int .u32 x.1 ∧ OctRep w sb B e.val x.2)
mutual
def Ty.Rep (w : World) (sb : Sb) : Nat → Ty → List Value → D → Prop
 | _, .scal s _, cs, .int n => cs = [s.val n] ∧ s.ok n
 | _, .named s _ _, cs, .int n => cs = [s.val n] ∧ s.ok n
 | _, .uuid, cs, .bytes (some l) => l.length = 16 ∧ cs = l.map bv
 | _, .text, cs, .bytes (some l) => cs = [.string ⟨l.toArray⟩]
 | _, .ntext, cs, .bytes none | _, .ntextFrom _, cs, .bytes none => cs = [.pointer none]
 | B, .ntext, cs, .bytes (some l) | B, .ntextFrom _, cs, .bytes (some l) => ∃ q, cs = [.pointer (some ⟨q, 0, none⟩)] ∧ B ≤ q ∧ w.cell? ⟨q, 0, none⟩ = some (.string ⟨l.toArray⟩)
 | _, .bytes, cs, .bytes none | _, .nbytes, cs, .bytes none => cs = [.slice none 0 0]
 | B, .bytes, cs, .bytes (some l) | B, .nbytes, cs, .bytes (some l) => ∃ q o cap, cs = [.slice (some ⟨q, o, none⟩) l.length cap] ∧ (q = sb.b ∨ B ≤ q) ∧ Cells w q o (l.map bv) ∧ q < w.heap.size
 | _, .list _ _ _, cs, .list none => cs = [.slice none 0 0]
 | B, .list _ _ e, cs, .list (some l) => ∃ q cap, cs = [.slice (some ⟨q, 0, none⟩) l.length cap] ∧ B ≤ q ∧ q < w.heap.size ∧ l.length ≤ big ∧
   ∀ (i : Nat) (d : D), l[i]? = some d → ∃ c : List Value, c.length = e.size ∧ Cells w q (i * e.size) c ∧ e.Rep w sb (q + 1) c d
 | B, .struct _ _ _ fs, cs, .obj l tags => fs.Rep w sb B cs l tags
 | _, .nstruct _ _ _ _ _, cs, .list none => cs = [.pointer none]
 | B, .nstruct _ _ _ fs _, cs, .list (some [.obj l tags]) => ∃ q c, cs = [.pointer (some ⟨q, 0, none⟩)] ∧ B ≤ q ∧ q < w.heap.size ∧ c.length = fs.size ∧ Cells w q 0 c ∧ fs.Rep w sb (q + 1) c l tags
 | _, _, _, _ => False
def Flds.Rep (w : World) (sb : Sb) : Nat → Flds → List Value → List D → List (Nat × List UInt8) → Prop
 | B, .nil t, cs, [], tags => if t then ∃ v, cs = [v] ∧ TagsRep w sb B v tags else cs = [] ∧ tags = []
 | B, .cons _ t r, cs, d :: l, tags => t.Rep w sb B (cs.take t.size) d ∧ r.Rep w sb B (cs.drop t.size) l tags
 | _, _, _, _, _ => False
end
end Go.Km
namespace Go.Km
open Go Go.RowKit
attribute [local irreducible] vc rO_
section
variable {P : Program} {Q : Exit → Act → World → Prop} {a : Act} {w : World} {K : Nat → Prop}
theorem vS {c : Code} {r : List Code} (h : vc P c (Exit.then (vc P (sq r) Q) Q) a w) : vc P (sq (c :: r)) Q a w := by
 cases r with
 | nil =>
  refine vc_mono _ h ?_
  intro e a w h
  cases e <;> first | exact vc_skip_inv h | exact h
 | cons d r => exact vc_seq h
theorem vN (h : Q .normal a w) : vc P (sq []) Q a w := vK h
theorem vc_sq_append {l r : List Code} (h : vc P (sq l) (Exit.then (vc P (sq r) Q) Q) a w) : vc P (sq (l ++ r)) Q a w := by
 induction l generalizing a w with
 | nil => exact vc_skip_inv h
 | cons c l ih =>
  have hh : vc P c (Exit.then (vc P (sq l) (Exit.then (vc P (sq r) Q) Q)) (Exit.then (vc P (sq r) Q) Q)) a w := by
   cases l with
   | nil => exact vc_mono c h (fun e a w h => by cases e <;> first | exact vK h | exact h)
   | cons d l => exact vc_seq_inv h
  refine vS (vc_mono _ hh ?_)
  intro e a w h
  cases e <;> first | exact ih h | exact h
theorem vc_sq_flat {l : List Code} {r : List Code} (h : vc P (sq (l ++ r)) Q a w) : vc P (sq (sq l :: r)) Q a w := by
 have hh : vc P (sq l) (Exit.then (vc P (sq r) Q) Q) a w := by
  induction l generalizing a w with
  | nil => exact vK h
  | cons c l ih =>
   have hc : vc P c (Exit.then (vc P (sq (l ++ r)) Q) Q) a w := by
    cases hlr : l ++ r with
    | nil =>
     have : vc P (sq (c :: (l ++ r))) Q a w := h
     rw [hlr] at this
     exact vc_mono c this (fun e a w h => by cases e <;> first | exact vK h | exact h)
    | cons d m =>
     have : vc P (sq (c :: (l ++ r))) Q a w := h
     rw [hlr] at this
     exact vc_seq_inv this
   refine vS (vc_mono c hc ?_)
   intro e a w h
   cases e <;> first | exact ih h | exact h
 exact vS hh
theorem vR {l : List Oper} (hg : ∀ o ∈ l, o.guard = none) (h : rO_ P Q l a w) : vc P (rg l) Q a w := vc_run hg h
theorem vX {l : List Oper} {r : List Code} (h : rO_ P (Exit.then (vc P (sq r) Q) Q) l a w) (hg : (l.all fun o => o.guard.isNone) = true := by rfl) : vc P (sq (rg l :: r)) Q a w := vS (vR (fun o ho => Option.isNone_iff_eq_none.1 (List.all_eq_true.1 hg o ho)) h)
set_option maxHeartbeats 400000 in
theorem m_load {TP TU T : TypeId} {x s f t b o off : Nat} {val : Value} (hs : a.eval (.tmp s) = .pointer (some ⟨b, o, none⟩)) (hf : fieldOff P TU f = some off) (hT : oneT P T = true)
  (hc : w.cell? ⟨b, o + off, none⟩ = some val) (hx : ¬ K x) (ht : ∀ d, t ≤ d → ¬ K d) (hxt : x < t) (hsz : t + 4 ≤ a.tmps.size)
  (k : ∀ a', Fr K a a' → a'.eval (.tmp x) = val → Q .normal a' w) : vc P (wLoad TP TU T x s f t) Q a w := by
 refine vR (by simp) ?_
 refine rM ?_
 refine r_nil (ad := ⟨b, o, none⟩) (by simp (disch := (try simp only [sP]); omega) only [eV, hs]) ?_
 refine rF (b := b) (o := o) (by simp (disch := (try simp only [sP]); omega) only [eV]) hf ?_
 refine rL (b := b) (o := o + off) (by simp (disch := (try simp only [sP]); omega) only [eV]) hT hc ?_
 refine rA (dn ?_)
 refine k _ ?_ (by simp (disch := (try simp only [sP]); omega) only [eV])
 exact (((((Fr.refl K a).put _ (ht _ (by omega))).put _ (ht _ (by omega))).put _ (ht _ (by omega))).put _ (ht _ (by omega))).put _ hx
set_option maxHeartbeats 400000 in
theorem m_loadArr {TP TU T : TypeId} {x s f t b o off : Nat} {cs z : List Value} (hs : a.eval (.tmp s) = .pointer (some ⟨b, o, none⟩)) (hf : fieldOff P TU f = some off) (hT : aggT P T = some cs.length)
  (hz : zeroT P T = some (.agg z.toArray)) (hzl : z.length = cs.length) (h1 : ∀ v ∈ cs, v.oneCell' = true)
  (hc : Cells w b (o + off) cs) (hx : ¬ K x) (ht : ∀ d, t ≤ d → ¬ K d) (hxt : x < t) (hsz : t + 4 ≤ a.tmps.size)
  (k : ∀ a' w' q, Fr K a a' → a'.eval (.tmp x) = .pointer (some ⟨q, 0, none⟩) → w.heap.size ≤ q → Cells w' q 0 cs → Grow w w' → Q .normal a' w') : vc P (wLoadArr TP TU T x s f t) Q a w := by
 refine vR (by simp) ?_
 refine rM ?_
 refine r_nil (ad := ⟨b, o, none⟩) (by simp (disch := (try simp only [sP]); omega) only [eV, hs]) ?_
 refine rF (b := b) (o := o) (by simp (disch := (try simp only [sP]); omega) only [eV]) hf ?_
 refine r_loadAgg (b := b) (o := o + off) (by simp (disch := (try simp only [sP]); omega) only [eV]) hT hc ?_
 refine r_alloc hz ?_
 have hfree : ∀ i, i < cs.length → Free (w.alloc (.cells (Value.agg z.toArray).cells T)) w.heap.size (0 + i) := by
  exact fun i hi => free_new w _ T (by simp [Value.cells]; omega)
 refine r_storeAgg (b := w.heap.size) (o := 0) (cs := cs) (by simp (disch := (try simp only [sP]); omega) only [eV]) (by simp (disch := (try simp only [sP]); omega) only [eV]) h1 hT hfree ?_
 refine dn ?_
 refine k _ _ w.heap.size ?_ (by simp (disch := (try simp only [sP]); omega) only [eV]) (Nat.le_refl _) ?_ ?_
 ·exact (((((Fr.refl K a).put _ (ht _ (by omega))).put _ (ht _ (by omega))).put _ (ht _ (by omega))).put _ (ht _ (by omega))).put _ hx
 ·intro i v hv
  exact setCells_cell _ _ _ _ (fun j hj => (hfree j hj).1) i v hv
 ·refine ((Eff.refl _ w).alloc _).trans' (setCells_eff _ _ _ _) ?_
  rintro k i hk ⟨rfl, _⟩
  omega
theorem m_app {E : Env} {F : FuncId} {T : TypeId} {x t : Nat} {dv arg : Value} {S : Value → World → Prop} (hd : a.eval (.tmp 1) = dv) (hx : a.eval (.tmp x) = arg) (hc : CallsV P F #[dv, arg] w S)
  (ht : ∀ d, t ≤ d → ¬ K d) (hk1 : ¬ K 1) (h1 : 1 < t) (hxt : x < t) (hsz : t + 3 ≤ a.tmps.size) (k : ∀ a' v' w', Fr K a a' → a'.eval (.tmp 1) = v' → S v' w' → Q .normal a' w') : vc P (wApp E F T x t) Q a w := by
 refine vR (by simp) ?_
 refine rM (rM ?_)
 refine r_call' (args := #[dv, arg]) ?_ hc ?_
 ·simp only [lM]
  simp (disch := (try simp only [sP]); omega) only [eV, hd, hx]
 intro v' w' hs
 refine rA (dn ?_)
 refine k _ v' _ ?_ (by simp (disch := (try simp only [sP]); omega) only [eV]) hs
 exact ((((Fr.refl K a).put _ (ht _ (by omega))).put _ (ht _ (by omega))).put _ (ht _ (by omega))).put _ hk1
theorem m_appArr {E : Env} {F : FuncId} {T : TypeId} {x t q : Nat} {dv : Value} {cs : List Value} {S : Value → World → Prop} (hd : a.eval (.tmp 1) = dv) (hx : a.eval (.tmp x) = .pointer (some ⟨q, 0, none⟩))
  (hT : aggT P T = some cs.length) (hcs : Cells w q 0 cs) (hc : CallsV P F #[dv, .agg cs.toArray] w S)
  (ht : ∀ d, t ≤ d → ¬ K d) (hk1 : ¬ K 1) (h1 : 1 < t) (hxt : x < t) (hsz : t + 3 ≤ a.tmps.size) (k : ∀ a' v' w', Fr K a a' → a'.eval (.tmp 1) = v' → S v' w' → Q .normal a' w') : vc P (wAppArr E F T x t) Q a w := by
 refine vR (by simp) ?_
 refine rM ?_
 refine r_loadAgg (b := q) (o := 0) (by simp (disch := (try simp only [sP]); omega) only [eV, hx]) hT hcs ?_
 refine r_call' (args := #[dv, .agg cs.toArray]) ?_ hc ?_
 ·simp only [lM]
  simp (disch := (try simp only [sP]); omega) only [eV, hd]
 intro v' w' hs
 refine rA (dn ?_)
 refine k _ v' _ ?_ (by simp (disch := (try simp only [sP]); omega) only [eV]) hs
 exact ((((Fr.refl K a).put _ (ht _ (by omega))).put _ (ht _ (by omega))).put _ (ht _ (by omega))).put _ hk1
theorem m_lens {E : Env} {F : FuncId} {T e : TypeId} {s x t len cap : Nat} {ad : Option Addr} {dv : Value} {S : Value → World → Prop} (hd : a.eval (.tmp 1) = dv) (hx : a.eval (.tmp x) = .slice ad len cap)
  (hT : sliceT P T = some (e, s)) (hc : CallsV P F #[dv, .int .i64 len] w S)
  (ht : ∀ d, t ≤ d → ¬ K d) (hk1 : ¬ K 1) (h1 : 1 < t) (hxt : x < t) (hsz : t + 4 ≤ a.tmps.size) (k : ∀ a' v' w', Fr K a a' → a'.eval (.tmp 1) = v' → S v' w' → Q .normal a' w') : vc P (wLens E F T x t) Q a w := by
 refine vR (by simp) ?_
 refine rM (rM ?_)
 refine r_len (ad := ad) (n := len) (c := cap) hT (by simp (disch := (try simp only [sP]); omega) only [eV, hx]) ?_
 refine r_call' (args := #[dv, .int .i64 len]) ?_ hc ?_
 ·simp only [lM]
  simp (disch := (try simp only [sP]); omega) only [eV, hd]
 intro v' w' hs
 refine rA (dn ?_)
 refine k _ v' _ ?_ (by simp (disch := (try simp only [sP]); omega) only [eV]) hs
 exact (((((Fr.refl K a).put _ (ht _ (by omega))).put _ (ht _ (by omega))).put _ (ht _ (by omega))).put _ (ht _ (by omega))).put _ hk1
theorem r_eqNil {d T x ty p af g e s ad len cap r} (hT : sliceT P T = some (e, s)) (hx : a.eval x = .slice ad len cap) (h : rO_ P Q r (a.put (some d) (.bool ad.isNone)) w) :
  rO_ P Q (⟨some d, .binOp .eql T x (.const (.slice none 0 0)) T, ty, p, af, g⟩ :: r) a w := by
 obtain ⟨hu, _⟩ := sliceT_inv hT
 refine st ?_
 have hb : (binOp .eql T (.slice ad len cap) (.slice none 0 0)).run P w = .ok (.bool ad.isNone) w := by
  have h0 : ∀ k : Nat, (Op.equalIn (k + 1) T (.slice ad len cap) (.slice none 0 0)).run P w = .ok ad.isNone w := fun k => by
   cases ad <;> simp [Op.equalIn, run_underlying hu]
  simp only [binOp]
  simp [Op.equal, Op.maxDepth, h0 9999]
 simp only [Oper.wp, execOp, hx, eval_const, eqGuard_at_slice, hb, Sem.run_bind, Sem.run_pure, Result.andThen_ok, Oper.upon_value]
 exact h
theorem m_nlens {E : Env} {F : FuncId} {T e : TypeId} {s x t len cap : Nat} {ad : Option Addr} {dv : Value} {S : Value → World → Prop} (hd : a.eval (.tmp 1) = dv) (hx : a.eval (.tmp x) = .slice ad len cap)
  (hT : sliceT P T = some (e, s)) (hc : CallsV P F #[dv, .int .i64 len, .bool ad.isNone] w S)
  (ht : ∀ d, t ≤ d → ¬ K d) (hk1 : ¬ K 1) (h1 : 1 < t) (hxt : x < t) (hsz : t + 6 ≤ a.tmps.size) (k : ∀ a' v' w', Fr K a a' → a'.eval (.tmp 1) = v' → S v' w' → Q .normal a' w') : vc P (wNLens E F T x t) Q a w := by
 refine vR (by simp) ?_
 refine rM (rM ?_)
 refine r_len (ad := ad) (n := len) (c := cap) hT (by simp (disch := (try simp only [sP]); omega) only [eV, hx]) ?_
 refine rM ?_
 refine r_eqNil (ad := ad) (len := len) (cap := cap) hT (by simp (disch := (try simp only [sP]); omega) only [eV, hx]) ?_
 refine r_call' (args := #[dv, .int .i64 len, .bool ad.isNone]) ?_ hc ?_
 ·simp only [lM]
  simp (disch := (try simp only [sP]); omega) only [eV, hd]
 intro v' w' hs
 refine rA (dn ?_)
 refine k _ v' _ ?_ (by simp (disch := (try simp only [sP]); omega) only [eV]) hs
 exact (((((((Fr.refl K a).put _ (ht _ (by omega))).put _ (ht _ (by omega))).put _ (ht _ (by omega))).put _ (ht _ (by omega))).put _ (ht _ (by omega))).put _ (ht _ (by omega))).put _ hk1
def runG (P : Program) (dj : Nat) (Q : Exit → Act → World → Prop) : List Oper → Act → World → Prop
 | [], a, w => Q .normal a w
 | o :: r, a, w => match o.guard with
  | none => o.wp P a w (runG P dj Q r) Q
  | some (_, want) => ∃ b, a.eval (.tmp dj) = .bool b ∧ (if b = want then o.wp P a w (runG P dj Q r) Q else runG P dj Q r (a.put o.dst undef) w)
theorem yielded_of {ops : Array Oper} {j dj : Nat} {o : Oper} {b : Bool} (hj : ops[j]? = some o) (hd : o.dst = some dj) (h : a.eval (.tmp dj) = .bool b) : yielded ops a.tmps j = some b := by
 unfold yielded
 simp only [hj, Option.bind_some, hd]
 simp only [Act.eval, Array.getD_eq_getD_getElem?] at h
 cases ht : a.tmps[dj]? with
 | none => simp [ht, undef] at h
 | some v => simp only [ht, Option.getD_some] at h; subst h; rfl
theorem vc_runG {l : List Oper} {dj : Nat} (hg : ∀ o ∈ l, o.guard = none ∨ ∃ want, o.guard = some (2, want)) (hd : (l[2]?).bind (·.dst) = some dj) (h : runG P dj Q l a w) : vc P (rg l) Q a w := by
 refine vc_ops ?_
 simp only [List.size_toArray]
 have key : ∀ (suf pre : List Oper) (a : Act) (w : World), l = pre ++ suf → runG P dj Q suf a w → wpOps P l.toArray Q (List.range' pre.length suf.length) a w := by
  intro suf
  induction suf with
  | nil => exact fun pre a w _ h => h
  | cons o r ih =>
   intro pre a w hl h
   have hi : l.toArray[pre.length]? = some o := by simp [hl]
   simp only [List.length_cons, List.range'_succ, wpOps, hi]
   have hn : ∀ a w, runG P dj Q r a w → wpOps P l.toArray Q (List.range' (pre.length + 1) r.length) a w := by
    intro a w h
    have := ih (pre ++ [o]) a w (by simp [hl]) h
    simpa using this
   have hwp : o.wp P a w (runG P dj Q r) Q → o.wp P a w (wpOps P l.toArray Q (List.range' (pre.length + 1) r.length)) Q := by
    intro h
    unfold Oper.wp at h ⊢
    revert h
    generalize (execOp a.eval o).run P w = res
    intro h
    unfold Oper.upon at h ⊢
    split at h <;> first
     | exact hn _ _ h
     | exact h
     | (exact Calls.mono h (fun e w' hh => by cases e <;> first | exact hn _ _ hh | exact hh))
     | (exact Rows.mono h (fun _ _ hh => hn _ _ hh))
   rcases hg o (by simp [hl]) with ho | ⟨want, ho⟩
   ·simp only [runG, ho] at h
    rw [if_pos (by simp [Region.wanted, ho])]
    exact .inl (hwp h)
   ·simp only [runG, ho] at h
    obtain ⟨b, hb, h⟩ := h
    cases h2 : l[2]? with
    | none => simp [h2] at hd
    | some o2 =>
     simp only [h2, Option.bind_some] at hd
     have hy := yielded_of (ops := l.toArray) (j := 2) (by simpa using h2) hd hb
     have hwt : Region.wanted o (yielded l.toArray a.tmps) = (b == want) := by simp [Region.wanted, ho, hy]
     rw [hwt]
     by_cases hbw : b = want
     ·rw [if_pos hbw] at h
      rw [if_pos (by simpa using hbw)]
      exact .inl (hwp h)
     ·rw [if_neg hbw] at h
      rw [if_neg (by simpa using hbw)]
      exact hn _ _ h
 have := key l [] a w rfl h
 simpa [List.range_eq_range'] using this
section
variable {dj : Nat} {r : List Oper}
theorem g_dn (h : Q .normal a w) : runG P dj Q [] a w := h
theorem g_want {d op t p af k want b} (hb : a.eval (.tmp dj) = .bool b) (hw : b = want) (h : runG P dj Q (⟨d, op, t, p, af, none⟩ :: r) a w) : runG P dj Q (⟨d, op, t, p, af, some (k, want)⟩ :: r) a w :=
 ⟨b, hb, by rw [if_pos hw]; exact h⟩
theorem g_skip {d op t p af k want b} (hb : a.eval (.tmp dj) = .bool b) (hw : b ≠ want) (h : runG P dj Q r (a.put d undef) w) : runG P dj Q (⟨d, op, t, p, af, some (k, want)⟩ :: r) a w :=
 ⟨b, hb, by rw [if_neg hw]; exact h⟩
theorem g_mv {d : Nat} {x t p af} (h : runG P dj Q r (a.put (some d) (a.eval x)) w) : runG P dj Q (⟨some d, .move x, t, p, af, none⟩ :: r) a w := h
theorem g_geq {d : Nat} {xt x y yt ty p af k m n} (hx : a.eval x = .int k m) (hy : a.eval y = .int k n) (h : runG P dj Q r (a.put (some d) (.bool (decide (m ≥ n)))) w) : runG P dj Q (⟨some d, .binOp .geq xt x y yt, ty, p, af, none⟩ :: r) a w := by
 show Oper.wp P _ a w (runG P dj Q r) Q
 simp only [Oper.wp, execOp, hx, hy, eqGuard_at_int, binOp_geq, Sem.run_bind, Sem.run_pure, Result.andThen_ok, Oper.upon_value]
 exact h
theorem g_leq {d : Nat} {xt x y yt ty p af k m n} (hx : a.eval x = .int k m) (hy : a.eval y = .int k n) (h : runG P dj Q r (a.put (some d) (.bool (decide (m ≤ n)))) w) : runG P dj Q (⟨some d, .binOp .leq xt x y yt, ty, p, af, none⟩ :: r) a w := by
 show Oper.wp P _ a w (runG P dj Q r) Q
 simp only [Oper.wp, execOp, hx, hy, eqGuard_at_int, binOp_leq, Sem.run_bind, Sem.run_pure, Result.andThen_ok, Oper.upon_value]
 exact h
theorem g_lss {d : Nat} {xt x y yt ty p af k m n} (hx : a.eval x = .int k m) (hy : a.eval y = .int k n) (h : runG P dj Q r (a.put (some d) (.bool (decide (m < n)))) w) : runG P dj Q (⟨some d, .binOp .lss xt x y yt, ty, p, af, none⟩ :: r) a w := by
 show Oper.wp P _ a w (runG P dj Q r) Q
 simp only [Oper.wp, execOp, hx, hy, eqGuard_at_int, binOp_lss, Sem.run_bind, Sem.run_pure, Result.andThen_ok, Oper.upon_value]
 exact h
theorem g_eql {d : Nat} {xt x y yt ty p af k m n} (hx : a.eval x = .int k m) (hy : a.eval y = .int k n) (h : runG P dj Q r (a.put (some d) (.bool (m == n))) w) : runG P dj Q (⟨some d, .binOp .eql xt x y yt, ty, p, af, none⟩ :: r) a w := by
 show Oper.wp P _ a w (runG P dj Q r) Q
 simp only [Oper.wp, execOp, hx, hy, eqGuard_at_int, binOp_eql, Sem.run_bind, Sem.run_pure, Result.andThen_ok, Oper.upon_value]
 exact h
theorem g_pick {d : Nat} {c x y ty p af v b} (hc : a.eval c = .bool b) (hv : (if b = true then a.eval x else a.eval y) = v) (h : runG P dj Q r (a.put (some d) v) w) : runG P dj Q (⟨some d, .pick c x y, ty, p, af, none⟩ :: r) a w := by
 show Oper.wp P _ a w (runG P dj Q r) Q
 simp only [Oper.wp, execOp, hc, asBool, Sem.run_bind, Sem.run_pure, Result.andThen_ok, Oper.upon_value, hv]
 exact h
end
attribute [local irreducible] runG
theorem m_flex {E : Env} {x : Cx} {t m : Nat} {A B : Tmp → Code} {fx : Bool} (hfl : ∀ f, x.fl = some f → a.eval (.tmp f) = .bool fx ∧ f < t) (hno : x.fl = none → fx = false) (ht : ∀ d, t ≤ d → ¬ K d) (h1 : 1 < t) (hsz : t + x.nt m ≤ a.tmps.size)
  (hA : fx = true → ∀ a' t', Fr K a a' → t ≤ t' → t' + m ≤ a.tmps.size → (∀ k, k < t → a'.eval (.tmp k) = a.eval (.tmp k)) → vc P (A t') Q a' w)
  (hB : fx = false → ∀ a' t', Fr K a a' → t ≤ t' → t' + m ≤ a.tmps.size → (∀ k, k < t → a'.eval (.tmp k) = a.eval (.tmp k)) → vc P (B t') Q a' w) : vc P (wFlex E x t m A B) Q a w := by
 unfold wFlex
 cases hx : x.fl with
 | none =>
  simp only [hx, Cx.nt] at hsz ⊢
  exact hB (hno hx) a t (Fr.refl _ _) (Nat.le_refl _) hsz (fun _ _ => rfl)
 | some f =>
  simp only [hx, Cx.nt] at hsz ⊢
  obtain ⟨hf, hfn⟩ := hfl f hx
  refine vX (rM (dn ?_))
  have hfr : Fr K a (a.put (some t) (a.eval (.tmp f))) := (Fr.refl K a).put _ (ht _ (by omega))
  have he : ∀ k, k < t → (a.put (some t) (a.eval (.tmp f))).eval (.tmp k) = a.eval (.tmp k) := fun k hk => eval_put_ne _ _ _ _ (by omega)
  refine vS (vC (t := fx) (by simp (disch := (try simp only [sP]); omega) only [eV, hf]) ?_ ?_)
  ·exact fun h => vc_mono _ (hA h _ (t + 1) hfr (by omega) (by omega) he) (fun e a w h => by cases e <;> first | exact vN h | exact h)
  ·exact fun h => vc_mono _ (hB h _ (t + 1 + m) hfr (by omega) (by omega) he) (fun e a w h => by cases e <;> first | exact vN h | exact h)
theorem m_ver {E : Env} {x : Cx} {v : Ver} {t ver : Nat} {body : Code} (hv : a.eval (.tmp x.vs) = .int .i16 (ver : Int)) (hvs : x.vs < t) (ht : ∀ d, t ≤ d → ¬ K d) (hsz : t + v.nt ≤ a.tmps.size)
  (hyes : v.has ver = true → ∀ a', Fr K a a' → (∀ k, k < t → a'.eval (.tmp k) = a.eval (.tmp k)) → vc P body Q a' w)
  (hno : v.has ver = false → ∀ a', Fr K a a' → (∀ k, k < t → a'.eval (.tmp k) = a.eval (.tmp k)) → Q .normal a' w) : vc P (ifVer E x v t body) Q a w := by
 unfold ifVer
 cases v with
 | all => exact hyes rfl a (Fr.refl _ _) (fun _ _ => rfl)
 | ge m =>
  simp only [Ver.nt] at hsz
  refine vX (rM ?_)
  refine r_geq (k := .i16) (m := ver) (n := m) (by simp (disch := (try simp only [sP]); omega) only [eV, hv]) rfl ?_
  refine dn ?_
  refine vS (vC (t := decide ((ver : Int) ≥ m)) (by simp (disch := (try simp only [sP]); omega) only [eV]) ?_ ?_)
  ·intro h
   have hd : (Ver.ge m).has ver = true := by simp only [Ver.has, decide_eq_true_eq] at h ⊢; omega
   exact vc_mono _ (hyes hd _ (((Fr.refl K a).put _ (ht _ (by omega))).put _ (ht _ (by omega))) (fun k hk => by rw [eval_put_ne _ _ _ _ (by omega), eval_put_ne _ _ _ _ (by omega)])) (fun e a w h => by cases e <;> first | exact vN h | exact h)
  ·intro h
   have hd : (Ver.ge m).has ver = false := by simp only [Ver.has, decide_eq_false_iff_not] at h ⊢; omega
   exact vK (vN (hno hd _ (((Fr.refl K a).put _ (ht _ (by omega))).put _ (ht _ (by omega))) (fun k hk => by rw [eval_put_ne _ _ _ _ (by omega), eval_put_ne _ _ _ _ (by omega)])))
 | btw m m' =>
  simp only [Ver.nt] at hsz
  refine vS (vc_runG (dj := t + 2) (by simp) rfl ?_)
  refine g_mv ?_
  refine g_geq (k := .i16) (m := ver) (n := m) (by simp (disch := (try simp only [sP]); omega) only [eV, hv]) rfl ?_
  refine g_mv ?_
  have hfr : Fr K a ((a.put (some t) (a.eval (.tmp x.vs))).put (some (t + 1)) (.bool (decide ((ver : Int) ≥ m)))) := ((Fr.refl K a).put _ (ht _ (by omega))).put _ (ht _ (by omega))
  by_cases h : (ver : Int) ≥ m
  ·refine g_want (b := decide ((ver : Int) ≥ m)) (by simp (disch := (try simp only [sP]); omega) only [eV]) (by simpa using h) ?_
   refine g_mv ?_
   refine g_want (b := decide ((ver : Int) ≥ m)) (by simp (disch := (try simp only [sP]); omega) only [eV]) (by simpa using h) ?_
   refine g_leq (k := .i16) (m := ver) (n := m') (by simp (disch := (try simp only [sP]); omega) only [eV, hv]) rfl ?_
   refine g_pick (b := decide ((ver : Int) ≥ m)) (v := .bool (decide ((ver : Int) ≤ m'))) (by simp (disch := (try simp only [sP]); omega) only [eV]) (by rw [if_pos (by simpa using h)]; simp (disch := (try simp only [sP]); omega) only [eV]) ?_
   refine g_dn ?_
   refine vS (vC (t := decide ((ver : Int) ≤ m')) (by simp (disch := (try simp only [sP]); omega) only [eV]) ?_ ?_)
   ·intro h'
    have hd : (Ver.btw m m').has ver = true := by simp only [Ver.has, Bool.and_eq_true, decide_eq_true_eq] at h' ⊢; omega
    refine vc_mono _ (hyes hd _ ((((hfr.put _ (ht _ (by omega))).put _ (ht _ (by omega))).put _ (ht _ (by omega))).put _ (ht _ (by omega))) ?_) (fun e a w h => by cases e <;> first | exact vN h | exact h)
    intro k hk
    simp (disch := (try simp only [sP]); omega) only [eV]
   ·intro h'
    have hd : (Ver.btw m m').has ver = false := by simp only [Ver.has, Bool.and_eq_false_iff, decide_eq_false_iff_not] at h' ⊢; omega
    refine vK (vN (hno hd _ ((((hfr.put _ (ht _ (by omega))).put _ (ht _ (by omega))).put _ (ht _ (by omega))).put _ (ht _ (by omega))) ?_))
    intro k hk
    simp (disch := (try simp only [sP]); omega) only [eV]
  ·refine g_skip (b := decide ((ver : Int) ≥ m)) (by simp (disch := (try simp only [sP]); omega) only [eV]) (by simpa using h) ?_
   refine g_skip (b := decide ((ver : Int) ≥ m)) (by simp (disch := (try simp only [sP]); omega) only [eV]) (by simpa using h) ?_
   refine g_pick (b := decide ((ver : Int) ≥ m)) (v := .bool false) (by simp (disch := (try simp only [sP]); omega) only [eV]) (by rw [if_neg (by simpa using h)]; rfl) ?_
   refine g_dn ?_
   refine vS (vC (t := false) (by simp (disch := (try simp only [sP]); omega) only [eV]) (fun h => by cases h) ?_)
   intro _
   have hd : (Ver.btw m m').has ver = false := by simp only [Ver.has, Bool.and_eq_false_iff, decide_eq_false_iff_not]; omega
   refine vK (vN (hno hd _ ((((hfr.put _ (ht _ (by omega))).put _ (ht _ (by omega))).put _ (ht _ (by omega))).put _ (ht _ (by omega))) ?_))
   intro k hk
   simp (disch := (try simp only [sP]); omega) only [eV]
theorem m_ifLss {E : Env} {x : Cx} {N t ver : Nat} {A B : Code} (hv : a.eval (.tmp x.vs) = .int .i16 (ver : Int)) (hvs : x.vs < t) (ht : ∀ d, t ≤ d → ¬ K d) (hsz : t + 2 ≤ a.tmps.size)
  (hA : ver < N → ∀ a', Fr K a a' → (∀ k, k < t → a'.eval (.tmp k) = a.eval (.tmp k)) → vc P A Q a' w)
  (hB : ¬ ver < N → ∀ a', Fr K a a' → (∀ k, k < t → a'.eval (.tmp k) = a.eval (.tmp k)) → vc P B Q a' w) : vc P (ifLss E x N t A B) Q a w := by
 unfold ifLss
 refine vX (rM ?_)
 refine r_lss (k := .i16) (m := ver) (n := N) (by simp (disch := (try simp only [sP]); omega) only [eV, hv]) rfl ?_
 refine dn ?_
 refine vS (vC (t := decide ((ver : Int) < N)) (by simp (disch := (try simp only [sP]); omega) only [eV]) ?_ ?_)
 ·intro h
  have hd : ver < N := by simp only [decide_eq_true_eq] at h; omega
  exact vc_mono _ (hA hd _ (((Fr.refl K a).put _ (ht _ (by omega))).put _ (ht _ (by omega))) (fun k hk => by rw [eval_put_ne _ _ _ _ (by omega), eval_put_ne _ _ _ _ (by omega)])) (fun e a w h => by cases e <;> first | exact vN h | exact h)
 ·intro h
  have hd : ¬ ver < N := by simp only [decide_eq_false_iff_not] at h; omega
  exact vc_mono _ (hB hd _ (((Fr.refl K a).put _ (ht _ (by omega))).put _ (ht _ (by omega))) (fun k hk => by rw [eval_put_ne _ _ _ _ (by omega), eval_put_ne _ _ _ _ (by omega)])) (fun e a w h => by cases e <;> first | exact vN h | exact h)
end
end Go.Km
namespace Go.Km
open Go Go.RowKit
def rowB (P : Program) (t e : TypeId) (s : Nat) : Bool :=
 match P.underlying t, P.info? e with
 | some (.slice e'), some i => e' == e && i.size == s && decide (0 < s) && (match i.zero with | some z => z.cells.size == s | none => false) && decide (i.bytes ≤ 65536)
 | _, _ => false
theorem rowB_inv {P : Program} {t e : TypeId} {s : Nat} (h : rowB P t e s = true) :
  P.underlying t = some (.slice e) ∧ ∃ i z, P.info? e = some i ∧ i.size = s ∧ 0 < s ∧ i.zero = some z ∧ z.cells.size = s ∧ i.bytes ≤ 65536 := by
 unfold rowB at h
 split at h
 ·rename_i e' i hu hi
  cases hz : i.zero with
  | none => simp [hz] at h
  | some z =>
   simp only [hz, Bool.and_eq_true, beq_iff_eq, decide_eq_true_eq] at h
   obtain ⟨⟨⟨⟨h1, h2⟩, h3⟩, h4⟩, h5⟩ := h
   subst h1
   exact ⟨hu, i, z, hi, h2, h3, hz, h4, h5⟩
 ·cases h
theorem rB {P : Program} {t e : TypeId} {s : Nat} (h : rowB P t e s = true) : sliceT P t = some (e, s) := by
 obtain ⟨hu, i, z, hi, hs, _⟩ := rowB_inv h
 simp [sliceT, hu, hi, hs]
theorem run_append_src {P : Program} (w : World) (base : Nat) (t tx ty e : TypeId) (s : Nat) (hB : rowB P t e s = true)
  (v : Value) (n : Nat) (xs : List Value) (hown : w.ownsRow base e s v n xs) (x : Value) (m : Nat) (news : List Value) (hs : Src P s tx x m news w) (hb : n + m ≤ big) (hbase : base ≤ w.heap.size) :
  ∃ v' w', (Builtin.append_ #[t, tx] ty #[v, x]).run P w = .ok v' w' ∧ w'.ownsRow base e s v' (n + m) (xs ++ news) ∧ w.grownBy w' v.ownBlock ∧ (∀ g, v'.ownBlock = some g → v.ownBlock = some g ∨ w.heap.size ≤ g) := by
 obtain ⟨ht, i, z, hi, hsize, hsz, hz, hzs, hby⟩ := rowB_inv hB
 subst hsize
 have hl := hs.newsLen
 have hsmall : n + m ≤ 9223372036854775807 := by unfold big at hb; omega
 have h63 : n + m ≤ maxLen := by unfold big at hb; simp only [maxLen]; omega
 have hbytes : (n + m) * i.bytes ≤ 140737488355328 := by
  refine Nat.le_trans (Nat.mul_le_mul hb hby) ?_
  unfold big
  omega
 have hlen : (xs ++ news).length = (n + m) * i.size := by rw [List.length_append, hown.1, hl, Nat.add_mul]
 have grown : ∀ (old : Nat), old < n + m → ∀ (row : Option Nat),
   (w.drew.alloc (.cells ((xs ++ news).toArray ++ Builtin.zeroCells z.cells (grownCap w (n + m) old e - (n + m))) e)).ownsRow base e i.size
    (.slice (some ⟨w.heap.size, 0, none⟩) (n + m) (grownCap w (n + m) old e)) (n + m) (xs ++ news) ∧
   w.grownBy (w.drew.alloc (.cells ((xs ++ news).toArray ++ Builtin.zeroCells z.cells (grownCap w (n + m) old e - (n + m))) e)) row := by
  intro old ho row
  have hge := grownCap_ge w (n + m) old e
  have hcm : grownCap w (n + m) old e ≤ maxLen := grownCap_le_maxLen w (n + m) old e h63
  refine ⟨⟨hlen, .inr ⟨w.heap.size, _, _, rfl, hbase, heap_alloc_new w.drew _, hge, hcm, ?_, ?_⟩⟩, ⟨rfl, rfl, rfl, by simp, fun k hk _ => heap_alloc_old w.drew _ k hk⟩⟩
  ·have hmul : (n + m) * i.size + (grownCap w (n + m) old e - (n + m)) * i.size = grownCap w (n + m) old e * i.size := by
    rw [← Nat.add_mul]
    congr 1
    omega
   rw [Array.size_append, List.size_toArray, size_zeroCells, hzs, hlen]
   exact hmul
  ·rw [Array.toList_append, ← hlen]
   exact List.take_left
 rcases hown.2 with ⟨rfl, rfl⟩ | ⟨g, cap, cur, rfl, hbg, hg, hnc, hcm, hcs, htake⟩
 ·have hx : xs = [] := List.eq_nil_of_length_eq_zero (by simpa using hown.1)
  subst hx
  by_cases hm : m = 0
  ·subst hm
   have hn : news = [] := List.eq_nil_of_length_eq_zero (by simpa using hl)
   subst hn
   refine ⟨.slice none 0 0, w, ?_, World.ownsRow_nil w base e i.size, ⟨rfl, rfl, rfl, Nat.le_refl _, fun _ _ _ => rfl⟩, fun g h => by cases h⟩
   rcases hs.kind with ⟨e', hk⟩ | hk <;> simp [Builtin.append_, run_underlying ht, run_underlying hk, sizeOf, typeInfo, hi, hs.len, hs.cells, storeCells]
  ·have hr := run_append_grow_src (P := P) w t tx ty e i z ht hi hz none 0 0 [] (by simp [Builtin.firstCells]) x m news hs (by omega) (by omega) (growslice_fits (by omega) (by simpa using hbytes))
   have hgr := grown 0 (by omega) (Value.ownBlock (.slice none 0 0))
   simp only [Nat.zero_add, List.nil_append] at hgr hr ⊢
   exact ⟨_, _, hr, hgr.1, hgr.2, fun g' h => .inr (by simp only [Value.ownBlock, Option.some.injEq] at h; omega)⟩
 ·by_cases hroom : n + m ≤ cap
  ·have hfit : n * i.size + news.length ≤ cur.size := by rw [hl, hcs, ← Nat.add_mul]; exact Nat.mul_le_mul_right _ hroom
   have hc : ∀ j, j < news.length → (w.cell? ⟨g, 0 + n * i.size + j, none⟩).isSome = true := by
    intro j hj
    have : 0 + n * i.size + j < cur.size := by omega
    simp [World.cell?, hg]
    omega
   have hf : ∀ j, j < news.length → w.frozen? ⟨g, 0 + n * i.size + j, none⟩ = false := by
    intro j hj
    simp [World.frozen?, hg]
   have hr := run_append_room_src (P := P) w t tx ty e i ht hi g 0 n cap x m news hs hroom hc hf
   have e1 := run_storeCells_cells (P := P) g (0 + n * i.size) news 0 w (by simpa using hc) (by simpa using hf) hs.one
   have e2 := run_storeCells_at P g (0 + n * i.size) e news 0 cur w hg (by simpa using hfit) hs.one
   have e3 := e1.symm.trans e2
   simp only [Nat.add_zero] at e3
   injection e3 with _ e3
   rw [e3] at hr
   refine ⟨_, _, hr, ⟨hlen, .inr ⟨g, cap, _, rfl, hbg, setRow_heap w g cur _ e _ hg, hroom, hcm, ?_, ?_⟩⟩, ⟨rfl, rfl, rfl, by simp, fun k _ hk => setRow_other w g k _ (fun e => hk (by simp [Value.ownBlock, e]))⟩, fun g' h => .inl h⟩
   ·simp only [List.size_toArray, List.length_append, List.length_take, List.length_drop, Array.length_toList]
    omega
   ·simp only [Nat.zero_add]
    rw [htake, ← hlen]
    exact List.take_left
  ·have holds : ∀ j u, xs[j]? = some u → w.cell? ((⟨g, 0, none⟩ : Addr).add j) = some u := hown.cells (g := g) rfl
   have hr := run_append_grow_src (P := P) w t tx ty e i z ht hi hz (some ⟨g, 0, none⟩) n cap xs (run_firstCells_some w.drew i.size n _ n cap xs hown.1 (by simpa using holds)) x m news hs (by omega) (by omega) (growslice_fits (by omega) hbytes)
   have hgr := grown cap (by omega) (Value.ownBlock (.slice (some ⟨g, 0, none⟩) n cap))
   exact ⟨_, _, hr, hgr.1, hgr.2, fun g' h => .inr (by simp only [Value.ownBlock, Option.some.injEq] at h; omega)⟩
theorem below_grownBy {w w' : World} {base : Nat} {e : TypeId} {s : Nat} {v : Value} {n : Nat} {xs : List Value} (hown : w.ownsRow base e s v n xs) (hg : w.grownBy w' v.ownBlock) (hU : base ≤ w.heap.size) : Below base w w' :=
 ⟨hg.os, hg.tape, hg.output, hg.size, fun k hk => hg.block k (by omega) (fun he => by have := hown.lt k he.symm; omega)⟩
theorem src_cells {P : Program} {t e : TypeId} {s : Nat} {w : World} {q o n cap : Nat} {cs : List Value} (ht : sliceT P t = some (e, s)) (hc : Cells w q o cs) (hl : cs.length = n * s) (h1 : ∀ u ∈ cs, u.oneCell' = true) :
  Src P s t (.slice (some ⟨q, o, none⟩) n cap) n cs w :=
 Src.ofSlice w (sliceT_inv ht).1 _ n cap cs hl (fun j u hu => by rw [Addr.add_lit]; exact hc j u hu) h1
theorem bv_one (l : List UInt8) : ∀ u ∈ l.map bv, u.oneCell' = true := by
 intro u hu
 obtain ⟨b, _, rfl⟩ := List.mem_map.1 hu
 rfl
theorem src_nil {P : Program} {t e : TypeId} {s c : Nat} {w : World} (ht : sliceT P t = some (e, s)) : Src P s t (.slice none 0 c) 0 [] w := Src.ofNil w (sliceT_inv ht).1 c
theorem byteCells_bv (l : List UInt8) : byteCells ⟨l.toArray⟩ = l.map bv := by
 simp [byteCells, bv]
theorem src_str {P : Program} {t : TypeId} {w : World} (ht : P.underlying t = some .string) (l : List UInt8) : Src P 1 t (.string ⟨l.toArray⟩) l.length (l.map bv) w := by
 have := Src.ofString (P := P) w ht ⟨l.toArray⟩
 rw [byteCells_bv] at this
 exact this
theorem src_own {P : Program} {t e : TypeId} {s : Nat} {w : World} {U n : Nat} {v : Value} {xs : List Value} (ht : sliceT P t = some (e, s)) (h : w.ownsRow U e s v n xs) (h1 : ∀ u ∈ xs, u.oneCell' = true) : Src P s t v n xs w := by
 rcases h.2 with ⟨rfl, rfl⟩ | ⟨g, cap, cur, rfl, hbg, hg, hnc, hcm, hcs, htake⟩
 ·have : xs = [] := List.eq_nil_of_length_eq_zero (by simpa using h.1)
  subst this
  exact src_nil ht
 ·refine src_cells ht ?_ h.1 h1
  intro j u hu
  have := h.cells (g := g) rfl j u hu
  rwa [Addr.add_lit] at this
section
variable {P : Program} {a : Act} {w : World} {r : List Oper} {Q : Exit → Act → World → Prop}
theorem r_append {d s x t tx ty p af g e sz U v n xs u m news} (hB : rowB P t e sz = true) (hs : a.eval s = v) (hx : a.eval x = u) (hown : w.ownsRow U e sz v n xs) (hU : U ≤ w.heap.size) (hsrc : Src P sz tx u m news w) (hb : n + m ≤ big)
  (h : ∀ v' w', w'.ownsRow U e sz v' (n + m) (xs ++ news) → Below U w w' → rO_ P Q r (a.put (some d) v') w') :
  rO_ P Q (⟨some d, .call { callee := .builtin .append, args := #[s, x], argTypes := #[t, tx] }, ty, p, af, g⟩ :: r) a w := by
 refine st ?_
 obtain ⟨v', w', hr, h1, h2, _⟩ := run_append_src w U t tx ty e sz hB v n xs hown u m news hsrc hb hU
 subst hs; subst hx
 simp only [Oper.wp, execOp, resolve, invoke, builtin, Sem.run_bind, Sem.run_pure, Result.andThen_ok, List.map_toArray, List.map_cons, List.map_nil, hr, Oper.upon_value]
 exact h v' w' h1 (below_grownBy hown h2 hU)
theorem r_pickT {d c x y ty p af g} (hc : a.eval c = .bool true) (h : rO_ P Q r (a.put (some d) (a.eval x)) w) : rO_ P Q (⟨some d, .pick c x y, ty, p, af, g⟩ :: r) a w := by
 refine st ?_
 simp only [Oper.wp, execOp, hc, asBool, Sem.run_bind, Sem.run_pure, Result.andThen_ok, Oper.upon_value, if_true]
 exact h
theorem r_pickF {d c x y ty p af g} (hc : a.eval c = .bool false) (h : rO_ P Q r (a.put (some d) (a.eval y)) w) : rO_ P Q (⟨some d, .pick c x y, ty, p, af, g⟩ :: r) a w := by
 refine st ?_
 simp only [Oper.wp, execOp, hc, asBool, Sem.run_bind, Sem.run_pure, Result.andThen_ok, Oper.upon_value, Bool.false_eq_true, if_false]
 exact h
theorem run_newRow' (e : TypeId) (c : Array Value) (w : World) : (newRow e c).run P w = .ok ⟨w.heap.size, 0, none⟩ (w.alloc (.cells c e)) := by
 simp [newRow]
theorem r_buildSlice {d t n ps ty p af g e s} {vs : List Value} (hB : rowB P t e s = true) (hp : (ps.map fun (x : Nat × Operand) => (x.1, a.eval x.2)).toList = (vs.zipIdx 0).map fun x => (x.2, x.1)) (hn : vs.length = n) (hs : ∀ v ∈ vs, v.cells.size = s) (hlim : n * s ≤ 16777216) (hn0 : 0 < n)
  (h : rO_ P Q r (a.put (some d) (.slice (some ⟨w.heap.size, 0, none⟩) n n)) (w.alloc (.cells (vs.flatMap fun v => v.cells.toList).toArray e))) :
  rO_ P Q (⟨some d, .buildSlice t n ps, ty, p, af, g⟩ :: r) a w := by
 refine st ?_
 obtain ⟨hu, i, z, hi, hsz, hs0, hz, hzs, _⟩ := rowB_inv hB
 have hn' : n * s ≠ 0 := Nat.ne_of_gt (Nat.mul_pos hn0 hs0)
 have hf := Great.fill_whole hs0 vs ((Array.range (n * s)).map (z.cells[· % z.cells.size]!)) hs (by simp [hn])
 have hz' : (zeroValue e).run P w = .ok z w := by simp [zeroValue, typeInfo, hi, hz]
 have hr : (Instr.buildSlice t n (ps.map fun (i, x) => (i, a.eval x))).run P w = .ok (.slice (some ⟨w.heap.size, 0, none⟩) n n) (w.alloc (.cells (vs.flatMap fun v => v.cells.toList).toArray e)) := by
  have hp' : (ps.map fun (i, x) => (i, a.eval x)).toList = (vs.zipIdx 0).map fun x => (x.2, x.1) := hp
  have hlim' : ¬ (n * s > 2 ^ 24) := by simp only [Nat.reducePow]; omega
  simp only [Instr.buildSlice, Sem.run_bind, run_underlying hu, Result.andThen_ok, run_sizeOf_elem (rB hB), if_neg hlim', if_neg hn', hz', Sem.run_pure, hp', hf, run_newRow']
 simp only [Oper.wp, execOp, Sem.run_bind, hr, Sem.run_pure, Result.andThen_ok, Oper.upon_value]
 exact h
end
def wants (ops : List Oper) (a : Act) (o : Oper) : Bool := Region.wanted o (yielded ops.toArray a.tmps)
def runS (P : Program) (ops : List Oper) (Q : Exit → Act → World → Prop) : List Nat → Act → World → Prop
 | [], a, w => Q .normal a w
 | i :: r, a, w => ∃ o, ops[i]? = some o ∧ (if wants ops a o = true then o.wp P a w (runS P ops Q r) Q else runS P ops Q r (a.put o.dst undef) w)
section
variable {P : Program} {a : Act} {w : World} {Q : Exit → Act → World → Prop} {ops : List Oper} {r : List Nat}
theorem vc_runS {id : Nat} (h : runS P ops Q (List.range ops.length) a w) : vc P (.region id ops.toArray false) Q a w := by
 refine vc_ops ?_
 have key : ∀ (l : List Nat) (a : Act) (w : World), runS P ops Q l a w → wpOps P ops.toArray Q l a w := by
  intro l
  induction l with
  | nil => exact fun a w h => h
  | cons i r ih =>
   rintro a w ⟨o, ho, h⟩
   have ho' : ops.toArray[i]? = some o := by simpa using ho
   simp only [wpOps, ho']
   by_cases hw : wants ops a o = true
   ·rw [if_pos hw] at h
    have hw' : Region.wanted o (yielded ops.toArray a.tmps) = true := hw
    rw [if_pos hw']
    exact .inl (Oper.wp_mono (fun a w => ih a w) h)
   ·rw [if_neg hw] at h
    have hw' : ¬ Region.wanted o (yielded ops.toArray a.tmps) = true := hw
    rw [if_neg hw']
    exact ih _ _ h
 have := key _ a w h
 simpa using this
theorem runS_nil (h : Q .normal a w) : runS P ops Q [] a w := h
theorem rD {i : Nat} {o : Oper} (ho : ops[i]? = some o) (hw : wants ops a o = true) (h : rO_ P (Exit.then (runS P ops Q r) Q) [o] a w) : runS P ops Q (i :: r) a w := by
 refine ⟨o, ho, ?_⟩
 rw [if_pos hw]
 have h' : o.wp P a w (runS P ops Q r) (Exit.then (runS P ops Q r) Q) := h
 unfold Oper.wp at h' ⊢
 revert h'
 generalize (execOp a.eval o).run P w = res
 intro h
 unfold Oper.upon at h ⊢
 split at h <;> first
  | exact h
  | (exact Calls.mono h (fun e w' hh => by cases e <;> exact hh))
  | (exact Rows.mono h (fun _ _ hh => hh))
theorem rT (h : runS P ops Q r a w) : Exit.then (runS P ops Q r) Q .normal a w := h
theorem runS_no {i : Nat} {o : Oper} (ho : ops[i]? = some o) (hw : wants ops a o = false) (h : runS P ops Q r (a.put o.dst undef) w) : runS P ops Q (i :: r) a w := by
 refine ⟨o, ho, ?_⟩
 rw [if_neg (by rw [hw]; exact Bool.false_ne_true)]
 exact h
theorem wN {o : Oper} (h : o.guard = none) : wants ops a o = true := by simp [wants, Region.wanted, h]
theorem wS {o : Oper} {j : Nat} {dj : Tmp} {want b : Bool} (h : o.guard = some (j, want)) (hj : (ops[j]?).bind (·.dst) = some dj) (hb : a.eval (.tmp dj) = .bool b) : wants ops a o = (b == want) := by
 unfold wants Region.wanted
 rw [h]
 have hy : yielded ops.toArray a.tmps j = some b := by
  cases hoj : ops[j]? with
  | none => simp [hoj] at hj
  | some oj => exact yielded_of (by simpa using hoj) (by simpa [hoj] using hj) hb
 simp [hy]
theorem wants_undef {o : Oper} {j : Nat} {dj : Tmp} {want : Bool} (h : o.guard = some (j, want)) (hj : (ops[j]?).bind (·.dst) = some dj) (hb : a.eval (.tmp dj) = undef) (hd : dj < a.tmps.size) : wants ops a o = false := by
 unfold wants Region.wanted
 rw [h]
 have hy : yielded ops.toArray a.tmps j = none := by
  unfold yielded
  simp only [List.getElem?_toArray, hj, Option.bind_some]
  simp only [Act.eval, Array.getD_eq_getD_getElem?] at hb
  rw [Array.getElem?_eq_getElem hd] at hb ⊢
  simp only [Option.getD_some] at hb
  simp [hb, undef]
 simp [hy]
end
def isPure : Op → Bool
 | .move _ | .assign _ | .load _ _ | .fieldAddr _ _ _ | .indexAddr _ _ _ | .binOp _ _ _ _ _ | .unOp _ _ _ | .convert _ _ _ | .pick _ _ _ | .slice _ _ _ _ _ => true
 | .call c => match c.callee with | .builtin .len => true | .builtin .min => true | .builtin .max => true | _ => false
 | _ => false
def runD (P : Program) (ops : List Oper) (Q : Exit → Act → World → Prop) (S : World → Prop) : List (Nat × Bool) → Act → World → Prop
 | [], a, w => Q .normal a w
 | (i, true) :: r, a, w => ∃ o v, ops[i]? = some o ∧ YieldsIf P ops.toArray S o v a ∧ S w ∧ runD P ops Q S r (a.put o.dst v) w
 | (i, false) :: r, a, w => wpOp P ops.toArray Q i (fun a' w' => S w' ∧ runD P ops Q S r a' w') a w
def ordB (ops : Array Oper) : List (Nat × Bool) → Array Bool → Bool
 | [], listed => (Region.ready .any ops listed).isEmpty
 | (i, true) :: r, listed => (Region.ready .any ops listed).contains i && Region.free .any ops listed i && ordB ops r (listed.setIfInBounds i true)
 | (i, false) :: r, listed => decide (Region.ready .any ops listed = [i]) && ordB ops r (listed.setIfInBounds i true)
section
variable {P : Program} {a : Act} {w : World} {Q : Exit → Act → World → Prop} {ops : List Oper} {S : World → Prop}
theorem wpAnyH_of_runD (hs : Region.noSelect ops.toArray = true) (hQ : ∀ c a a' w, Q (.panic c) a w → Q (.panic c) a' w) : ∀ (ord : List (Nat × Bool)) (listed : Array Bool) (a : Act) (w : World), ordB ops.toArray ord listed = true →
  runD P ops Q S ord a w → wpAnyH P .any ops.toArray Q S ord.length listed a w
 | [], listed, a, w, hB, h => by
  simp only [ordB, List.isEmpty_iff] at hB
  exact ⟨hB, h⟩
 | (i, true) :: r, listed, a, w, hB, ⟨o, v, ho, hy, hS, h⟩ => by
  simp only [ordB, Bool.and_eq_true] at hB
  have ho' : ops.toArray[i]? = some o := by simpa using ho
  exact wpAnyH_take ho' hs hB.1.2 hB.1.1 (fun c a w h => hQ c _ _ w h) hy hS (wpAnyH_of_runD hs hQ r _ _ w hB.2 h)
 | (i, false) :: r, listed, a, w, hB, h => by
  simp only [ordB, Bool.and_eq_true, decide_eq_true_eq] at hB
  refine wpAnyH_all (rs := [i]) hB.1 (by simp) ?_
  intro j hj
  simp only [List.mem_singleton] at hj
  subst hj
  exact wpOp_mono (fun a' w' h' => ⟨h'.1, wpAnyH_of_runD hs hQ r _ a' w' hB.2 h'.2⟩) h
theorem vc_runD (ord : List (Nat × Bool)) (S : World → Prop) {id : Nat} (hm : P.follows .mixedOrders = true) (hs : Region.noSelect ops.toArray = true) (hl : ord.length = ops.length) (hB : ordB ops.toArray ord (Array.replicate ops.length false) = true)
  (hQ : ∀ c a a' w, Q (.panic c) a w → Q (.panic c) a' w) (h : runD P ops Q S ord a { w with drawn := w.drawn + 1 }) : vc P (.region id ops.toArray true) Q a w := by
 refine vc_draw (fun t => ?_)
 simp only [Region.schedule, hm, Bool.true_or, if_true]
 refine wpAny_sound ops.toArray.size t _ a _ (wpAny_of_held (S := S) _ _ _ _ ?_)
 have := wpAnyH_of_runD hs hQ ord _ a _ hB h
 rw [hl] at this
 simpa using this
theorem d_nil (h : Q .normal a w) : runD P ops Q S [] a w := h
def yq (a : Act) (d : Option Tmp) (v : Value) (w : World) : Exit → Act → World → Prop := fun e a' w' => e = .normal ∧ a' = a.put d v ∧ w' = w
theorem v_value {x : Sem Value} {w w' : World} {n : Next} (h : (do let y ← x; pure (Next.value y) : Sem Next).run P w = .ok n w') : ∃ v, n = .value v := by
 rw [Sem.run_bind] at h
 cases hx : x.run P w with
 | ok y w1 =>
  rw [hx, Result.andThen_ok, Sem.run_pure] at h
  injection h with h1 _
  exact ⟨_, h1.symm⟩
 | halt s w1 =>
  rw [hx] at h
  cases h
theorem pure_value {ρ : Operand → Value} {o : Oper} (hp : isPure o.op = true) {w w' : World} {n : Next} (h : (execOp ρ o).run P w = .ok n w') : ∃ v, n = .value v := by
  unfold isPure at hp
  unfold execOp at h
  split at hp <;> first | exact absurd hp Bool.false_ne_true | (rename_i heq; rw [heq] at h)
  all_goals first
    | exact v_value h
    | (rw [Sem.run_pure] at h; injection h with h1 _; exact ⟨_, h1.symm⟩)
    | (simp only [Sem.run_bind] at h
       revert h
       generalize Sem.run P (asBool _) w = res
       intro h
       cases res with
       | ok y w1 => rw [Result.andThen_ok, Sem.run_pure] at h; injection h with h1 _; exact ⟨_, h1.symm⟩
       | halt s w1 => cases h)
    | skip
  rename_i c
  split at hp <;> first | exact absurd hp Bool.false_ne_true | skip
  all_goals
    rename_i hc
    simp only [resolve, hc, Sem.run_bind, Sem.run_pure, Result.andThen_ok, invoke, builtin] at h
    refine v_value (x := ?_) (by rw [Sem.run_bind]; simp only [Sem.run_pure]; exact h)
theorem yields_run {o : Oper} {d : Nat} {v : Value} (hp : isPure o.op = true) (hd : o.dst = some d) (hsz : d < a.tmps.size) (h : rO_ P (yq a (some d) v w) [o] a w) : (execOp a.eval o).run P w = .ok (.value v) w := by
 have h' : o.wp P a w (yq a (some d) v w .normal) (yq a (some d) v w) := h
 unfold Oper.wp at h'
 cases hr : (execOp a.eval o).run P w with
 | ok n w' =>
  obtain ⟨u, rfl⟩ := pure_value hp hr
  rw [hr] at h'
  simp only [Oper.upon, hd] at h'
  obtain ⟨_, h1, h2⟩ := h'
  subst h2
  have h3 : (a.put (some d) u).eval (.tmp d) = (a.put (some d) v).eval (.tmp d) := by rw [h1]
  rw [eval_put_same _ _ _ hsz, eval_put_same _ _ _ hsz] at h3
  rw [h3]
 | halt x w' =>
  rw [hr] at h'
  cases x <;> simp [Oper.upon, yq] at h'
theorem dP {i d : Nat} {o : Oper} {v : Value} {r : List (Nat × Bool)} (ho : ops[i]? = some o) (hp : isPure o.op = true) (hd : o.dst = some d) (hw : wants ops a o = true) (hsz : d < a.tmps.size) (hS : S w)
  (h : ∀ w', S w' → rO_ P (yq a (some d) v w') [o] a w') (k : runD P ops Q S r (a.put (some d) v) w) : runD P ops Q S ((i, true) :: r) a w :=
 ⟨o, v, ho, .inl ⟨hw, fun w' hS' => yields_run hp hd hsz (h w' hS')⟩, hS, by rw [hd]; exact k⟩
theorem d_no {i d : Nat} {o : Oper} {r : List (Nat × Bool)} (ho : ops[i]? = some o) (hd : o.dst = some d) (hw : wants ops a o = false) (hS : S w) (k : runD P ops Q S r (a.put (some d) undef) w) : runD P ops Q S ((i, true) :: r) a w :=
 ⟨o, undef, ho, .inr ⟨hw, rfl⟩, hS, by rw [hd]; exact k⟩
theorem d_sole {i : Nat} {o : Oper} {r : List (Nat × Bool)} (ho : ops[i]? = some o) (hw : wants ops a o = true) (h : rO_ P (Exit.then (fun a w => S w ∧ runD P ops Q S r a w) Q) [o] a w) : runD P ops Q S ((i, false) :: r) a w := by
 have ho' : ops.toArray[i]? = some o := by simpa using ho
 show wpOp P ops.toArray Q i _ a w
 unfold wpOp
 have hw' : Region.wanted o (yielded ops.toArray a.tmps) = true := hw
 simp only [ho', hw', if_true]
 left
 have h' : o.wp P a w (fun a w => S w ∧ runD P ops Q S r a w) (Exit.then (fun a w => S w ∧ runD P ops Q S r a w) Q) := h
 unfold Oper.wp at h' ⊢
 revert h'
 generalize (execOp a.eval o).run P w = res
 intro h
 unfold Oper.upon at h ⊢
 split at h <;> first
  | exact h
  | (exact Calls.mono h (fun e w' hh => by cases e <;> exact hh))
  | (exact Rows.mono h (fun _ _ hh => hh))
theorem d_then {r : List (Nat × Bool)} (hS : S w) (h : runD P ops Q S r a w) : Exit.then (fun a w => S w ∧ runD P ops Q S r a w) Q .normal a w := ⟨hS, h⟩
end
end Go.Km
namespace Go.Km
open Go Go.RowKit
attribute [local irreducible] vc rO_ runG
theorem wrap_i64 {n : Int} (h0 : -9223372036854775808 ≤ n) (h1 : n ≤ 9223372036854775807) : IntKind.i64.wrap n = n := IntWalk.i64_in n ⟨h0, h1⟩
section
variable {P : Program} {Q : Exit → Act → World → Prop} {a : Act} {w : World}
set_option maxHeartbeats 1000000 in
theorem m_wloop {E : Env} {T e : TypeId} {s x t b post len cap : Nat} {ad : Option Addr} {body : Code} (hx : a.eval (.tmp x) = .slice ad len cap) (hT : sliceT P T = some (e, s)) (hlen : len ≤ 9223372036854775806)
  (hxt : x < t) (hpost : t + 4 ≤ post) (hsz : post < a.tmps.size) (I : Nat → Act → World → Prop)
  (stab : ∀ i a a' w, I i a w → a'.tmps.size = a.tmps.size → a'.defers = a.defers → (∀ k, k < t → a'.eval (.tmp k) = a.eval (.tmp k)) → I i a' w)
  (h0 : I 0 a w)
  (step : ∀ i a' w', i < len → I i a' w' → a'.eval (.tmp (t + 2)) = .int .i64 (i : Int) → a'.tmps.size = a.tmps.size →
   vc P body (fun | .normal => fun a2 w2 => I (i + 1) a2 w2 ∧ a2.eval (.tmp (t + 2)) = a'.eval (.tmp (t + 2)) ∧ a2.eval (.tmp (t + 1)) = a'.eval (.tmp (t + 1)) ∧ a2.tmps.size = a'.tmps.size | _ => fun _ _ => False) a' w')
  (done : ∀ a' w', I len a' w' → Q .normal a' w') : vc P (wLoop E T x t b post body) Q a w := by
 unfold wLoop
 refine vX (rM ?_)
 refine r_len (ad := ad) (n := len) (c := cap) hT (by simp (disch := (try simp only [sP]); omega) only [eV, hx]) ?_
 refine rM (dn ?_)
 refine vS (vc_block ?_)
 refine vc_loop (fun a' w' => ∃ i, i ≤ len ∧ I i a' w' ∧ a'.eval (.tmp (t + 2)) = .int .i64 (i : Int) ∧ a'.eval (.tmp (t + 1)) = .int .i64 (len : Int) ∧ a'.tmps.size = a.tmps.size)
  (fun a' _ => len - (intOf (a'.eval (.tmp (t + 2)))).toNat) ?_ ?_
 ·refine ⟨0, Nat.zero_le _, stab 0 a _ w h0 (by simp only [zP]) (by simp only [dF]) (fun k hk => by simp (disch := (try simp only [sP]); omega) only [eV]), ?_, ?_, by simp only [zP]⟩
  ·simp (disch := (first | omega | (simp only [zP]; omega))) only [eval_put_same]; rfl
  ·simp (disch := (try simp only [sP]); omega) only [eV]
 rintro a1 w1 ⟨i, hi, hI, h2, h1, hs1⟩
 refine vX ?_
 refine r_lss (k := .i64) (m := i) (n := len) h2 h1 ?_
 refine dn ?_
 refine vS (vC (t := decide ((i : Int) < len)) (by simp (disch := (try simp only [sP]); omega) only [eV]) ?_ ?_)
 ·intro hlt
  have hlt' : i < len := by simpa using hlt
  refine vK ?_
  refine vS (vc_block ?_)
  have hI' : I i (a1.put (some (t + 3)) (.bool (decide ((i : Int) < len)))) w1 := stab i a1 _ w1 hI (zP _ _ _) (dF _ _ _) (fun k hk => eval_put_ne _ _ _ _ (by omega))
  refine vc_mono _ (step i _ w1 hlt' hI' (by rw [eval_put_ne _ _ _ _ (by omega)]; exact h2) (by rw [zP]; exact hs1)) ?_
  intro ex a2 w2 h
  cases ex with
  | normal =>
   obtain ⟨hI2, e2, e1, hs2⟩ := h
   have e2' : a2.eval (.tmp (t + 2)) = .int .i64 (i : Int) := by rw [e2, eval_put_ne _ _ _ _ (by omega)]; exact h2
   have e1' : a2.eval (.tmp (t + 1)) = .int .i64 (len : Int) := by rw [e1, eval_put_ne _ _ _ _ (by omega)]; exact h1
   have hs2' : a2.tmps.size = a.tmps.size := by rw [hs2, zP]; exact hs1
   refine vX ?_
   refine r_add (k := .i64) (m := i) (n := 1) e2' rfl ?_
   refine rM (dn (vN ?_))
   have hw : IntKind.i64.wrap ((i : Int) + 1) = ((i + 1 : Nat) : Int) := by rw [wrap_i64 (by omega) (by omega)]; omega
   have hps : post < a2.tmps.size := by omega
   have e3 : ((a2.put (some post) (.int .i64 (IntKind.i64.wrap ((i : Int) + 1)))).put (some (t + 2)) ((a2.put (some post) (.int .i64 (IntKind.i64.wrap ((i : Int) + 1)))).eval (.tmp post))).eval (.tmp (t + 2)) = .int .i64 ((i + 1 : Nat) : Int) := by
    rw [eval_put_same _ _ _ (by rw [zP]; omega), eval_put_same _ _ _ hps, hw]
   refine ⟨⟨i + 1, hlt', stab (i + 1) a2 _ w2 hI2 (by simp only [zP]) (by simp only [dF]) (fun k hk => by simp (disch := (try simp only [sP]); omega) only [eV]), e3, ?_, by simp only [zP]; exact hs2'⟩, ?_⟩
   ·rw [eval_put_ne _ _ _ _ (by omega), eval_put_ne _ _ _ _ (by omega)]; exact e1'
   ·show len - (intOf _).toNat < len - (intOf _).toNat
    rw [e3, h2]
    simp only [intOf, Int.toNat_natCast]
    omega
  | _ => exact h.elim
 ·intro hge
  have hi' : i = len := by simp at hge; omega
  subst hi'
  refine vc_exit ?_
  show Exit.inBlock b _ (.exit b) _ _
  simp only [Exit.inBlock, if_true]
  exact vN (done _ _ (stab i a1 _ w1 hI (zP _ _ _) (dF _ _ _) (fun k hk => eval_put_ne _ _ _ _ (by omega))))
end
end Go.Km
namespace Go.Km
open Go Go.RowKit
attribute [local irreducible] vc rO_ runG
def Wr1 (P : Program) (E : Env) (F : FuncId) (U : Nat) (args : List Value) (bs : List UInt8) (w : World) : Prop :=
 ∀ dv (xs : List UInt8), w.ownsRow U E.tU8 1 dv xs.length (xs.map bv) → U ≤ w.heap.size → xs.length + bs.length ≤ big →
  CallsV P F (#[dv] ++ args.toArray) w fun v' w' => w'.ownsRow U E.tU8 1 v' (xs ++ bs).length ((xs ++ bs).map bv) ∧ Below U w w'
def PStrAt (w : World) (U : Nat) (v : Value) : Option (List UInt8) → Prop
 | none => v = .pointer none
 | some l => ∃ q, v = .pointer (some ⟨q, 0, none⟩) ∧ q < U ∧ w.cell? ⟨q, 0, none⟩ = some (.string ⟨l.toArray⟩)
def OctAt (w : World) (U : Nat) (v : Value) : Option (List UInt8) → Prop
 | none => v = .slice none 0 0
 | some l => ∃ q o cap, v = .slice (some ⟨q, o, none⟩) l.length cap ∧ q < U ∧ Cells w q o (l.map bv)
structure EnvW (P : Program) (E : Env) (T : List (Nat × List UInt8) → Prop) : Prop where
 bytes : sliceT P E.tB = some (E.tU8, 1)
 scal : ∀ s, E.wScal s ≠ 0 → ∀ n U w, s.ok n → Wr1 P E (E.wScal s) U [s.val n] (s.wr n) w
 uuid : E.wUuid ≠ 0 → ∀ l U w, l.length = 16 → Wr1 P E E.wUuid U [.agg (l.map bv).toArray] l w
 str : E.wStr ≠ 0 → ∀ l U w, Wr1 P E E.wStr U [.string ⟨l.toArray⟩] (wrStr false l) w
 cstr : E.wCStr ≠ 0 → ∀ l U w, Wr1 P E E.wCStr U [.string ⟨l.toArray⟩] (wrStr true l) w
 nstr : E.wNStr ≠ 0 → ∀ v o U w, PStrAt w U v o → Wr1 P E E.wNStr U [v] (wrNStr false o) w
 cnstr : E.wCNStr ≠ 0 → ∀ v o U w, PStrAt w U v o → Wr1 P E E.wCNStr U [v] (wrNStr true o) w
 octs : E.wBytes ≠ 0 → ∀ v o U w, OctAt w U v o → Wr1 P E E.wBytes U [v] (wrBytes false (o.getD [])) w
 cocts : E.wCBytes ≠ 0 → ∀ v o U w, OctAt w U v o → Wr1 P E E.wCBytes U [v] (wrBytes true (o.getD [])) w
 nocts : E.wNBytes ≠ 0 → ∀ v o U w, OctAt w U v o → Wr1 P E E.wNBytes U [v] (wrNBytes false o) w
 cnocts : E.wCNBytes ≠ 0 → ∀ v o U w, OctAt w U v o → Wr1 P E E.wCNBytes U [v] (wrNBytes true o) w
 len : E.wLen ≠ 0 → ∀ (n : Nat) U w, n ≤ big → Wr1 P E E.wLen U [.int .i64 n] (wrLen false n) w
 clen : E.wCLen ≠ 0 → ∀ (n : Nat) U w, n ≤ big → Wr1 P E E.wCLen U [.int .i64 n] (wrLen true n) w
 nlen : E.wNLen ≠ 0 → ∀ (n : Nat) (b : Bool) U w, n ≤ big → Wr1 P E E.wNLen U [.int .i64 n, .bool b] (if b then wrNull false else wrLen false n) w
 cnlen : E.wCNLen ≠ 0 → ∀ (n : Nat) (b : Bool) U w, n ≤ big → Wr1 P E E.wCNLen U [.int .i64 n, .bool b] (if b then wrNull true else wrLen true n) w
 uvar : E.wUvarint ≠ 0 → ∀ (n : Nat) U w, n < 4294967296 → Wr1 P E E.wUvarint U [.int .u32 n] (Go.Km.uvar n) w
 tlen : E.tLen ≠ 0 → ∀ W0 (sb : Sb) b o v tags w, sb.T = T → W0.cell? ⟨b, o, none⟩ = some v → TagsRep W0 sb 0 v tags → Below W0.heap.size W0 w →
  CallsV P E.tLen #[.pointer (some ⟨b, o, none⟩)] w fun r w' => r = .int .i64 (tags.length : Int) ∧ Grow w w'
 teach : E.tEach ≠ 0 → ∀ W0 (sb : Sb) b o v tags w, sb.T = T → W0.cell? ⟨b, o, none⟩ = some v → TagsRep W0 sb 0 v tags → Below W0.heap.size W0 w →
  ∀ dv (xs : List UInt8), w.ownsRow W0.heap.size E.tU8 1 dv xs.length (xs.map bv) → xs.length + ((tags.map wrTag).flatten).length ≤ big →
   CallsV P E.tEach #[.pointer (some ⟨b, o, none⟩), dv] w fun v' w' =>
    w'.ownsRow W0.heap.size E.tU8 1 v' (xs ++ (tags.map wrTag).flatten).length ((xs ++ (tags.map wrTag).flatten).map bv) ∧ Below W0.heap.size w w'
def zeroAgg (P : Program) (t : TypeId) (n : Nat) : Bool :=
 match zeroT P t with
 | some (.agg c) => c.size == n
 | _ => false
theorem zeroAgg_inv {P : Program} {t n} (h : zeroAgg P t n = true) : ∃ z : List Value, zeroT P t = some (.agg z.toArray) ∧ z.length = n := by
 unfold zeroAgg at h
 split at h
 ·rename_i c hc
  exact ⟨c.toList, by simpa using hc, by simpa using h⟩
 ·cases h
def sliceB (P : Program) (t : TypeId) (n : Nat) : Bool :=
 match sliceT P t with
 | some (_, s) => s == n
 | none => false
theorem sliceB_inv {P : Program} {t n} (h : sliceB P t n = true) : ∃ e, sliceT P t = some (e, n) := by
 unfold sliceB at h
 split at h
 ·rename_i e s hs
  simp only [beq_iff_eq] at h
  subst h
  exact ⟨e, hs⟩
 ·cases h
def ptrB (P : Program) (t : TypeId) : Bool :=
 match P.underlying t with
 | some (.pointer _) => true
 | _ => false
theorem ptrB_inv {P : Program} {t} (h : ptrB P t = true) : ∃ e, P.underlying t = some (.pointer e) := by
 unfold ptrB at h
 split at h
 ·rename_i e he
  exact ⟨e, he⟩
 ·cases h
def Cx.ok (x : Cx) (F G : FuncId) : Bool := (G != 0) && (x.fl.isNone || F != 0)
mutual
def Ty.okW (P : Program) (E : Env) (x : Cx) : Ty → Bool
 | .scal s _ => E.wScal s != 0 && oneT P (E.tScal s)
 | .named s T _ => E.wScal s != 0 && oneT P T
 | .uuid => E.wUuid != 0 && aggT P E.tUuid == some 16 && zeroAgg P E.tUuid 16
 | .text => x.ok E.wCStr E.wStr && oneT P E.tStr
 | .ntext => x.ok E.wCNStr E.wNStr && oneT P E.tPStr
 | .ntextFrom _ => x.ok E.wCStr E.wStr && x.ok E.wCNStr E.wNStr && oneT P E.tPStr && oneT P E.tStr && ptrB P E.tPStr
 | .bytes => x.ok E.wCBytes E.wBytes && oneT P E.tB
 | .nbytes => x.ok E.wCNBytes E.wNBytes && oneT P E.tB
 | .list TS null e => (if null.isSome then x.ok E.wCNLen E.wNLen else x.ok E.wCLen E.wLen) && oneT P TS && sliceB P TS e.size && !e.arr && e.okW P E x
 | .struct _ TU _ fs => fs.okW P E x TU 0 0
 | .nstruct TP TU _ fs PP => rowB P E.tB E.tU8 1 && ptrB P TP && oneT P TP && fs.okW P E x TU 0 0
def Flds.okW (P : Program) (E : Env) (x : Cx) (TU : TypeId) (idx off : Nat) : Flds → Bool
 | .nil tags => x.fl.isNone || (tags && fieldOff P TU idx == some off && E.tLen != 0 && E.tEach != 0 && E.wUvarint != 0)
 | .cons _ t r => fieldOff P TU idx == some off && t.okW P E x && r.okW P E x TU (idx + 1) (off + t.size)
end
structure WSt (P : Program) (E : Env) (W0 : World) (x : Cx) (ver : Nat) (fx : Bool) (a : Act) (w : World) (xs : List UInt8) : Prop where
 below : Below W0.heap.size W0 w
 own : w.ownsRow W0.heap.size E.tU8 1 (a.eval (.tmp 1)) xs.length (xs.map bv)
 ver : a.eval (.tmp x.vs) = .int .i16 (ver : Int)
 fl : ∀ f, x.fl = some f → a.eval (.tmp f) = .bool fx
def KW (L n t : Nat) (k : Nat) : Prop := k ≠ 1 ∧ (k < n ∨ (L ≤ k ∧ k < t))
theorem KW.mono {L n n' t t' : Nat} (hn : n ≤ n') (ht : t ≤ t') : ∀ k, KW L n t k → KW L n' t' k := fun k ⟨h1, h2⟩ => ⟨h1, by omega⟩
structure WSl (x : Cx) (L n t : Nat) (fx : Bool) : Prop where
 one : 1 < n
 vs : x.vs < n ∧ x.vs ≠ 1
 fl : ∀ f, x.fl = some f → f < n ∧ f ≠ 1
 no : x.fl = none → fx = false
 nL : n ≤ L
 Lt : L ≤ t
theorem WSl.kt {x : Cx} {L n t : Nat} {fx : Bool} (h : WSl x L n t fx) : ∀ d, t ≤ d → ¬ KW L n t d := by
 rintro d hd ⟨_, h2⟩
 have := h.nL; have := h.Lt
 omega
theorem WSl.k1 {x : Cx} {L n t : Nat} {fx : Bool} (h : WSl x L n t fx) : ¬ KW L n t 1 := fun h => h.1 rfl
theorem WSl.up {x : Cx} {L n t n' t' : Nat} {fx : Bool} (h : WSl x L n t fx) (hn : n ≤ n') (hL : n' ≤ L) (ht : t ≤ t') : WSl x L n' t' fx :=
 ⟨by have := h.one; omega, ⟨by have := h.vs.1; omega, h.vs.2⟩, fun f hf => ⟨by have := (h.fl f hf).1; omega, (h.fl f hf).2⟩, h.no, hL, by have := h.Lt; omega⟩
section
variable {P : Program} {E : Env} {W0 : World} {sb : Sb}
theorem WSt.fr {x : Cx} {ver : Nat} {fx : Bool} {a a' : Act} {w : World} {xs : List UInt8} {L n t : Nat} (h : WSt P E W0 x ver fx a w xs) (hs : WSl x L n t fx) (hf : Fr (KW L n t) a a') (h1 : a'.eval (.tmp 1) = a.eval (.tmp 1)) :
  WSt P E W0 x ver fx a' w xs :=
 ⟨h.below, by rw [h1]; exact h.own, by rw [hf.slot _ ⟨hs.vs.2, .inl hs.vs.1⟩]; exact h.ver, fun f hh => by rw [hf.slot _ ⟨(hs.fl f hh).2, .inl (hs.fl f hh).1⟩]; exact h.fl f hh⟩
theorem WSt.step {x : Cx} {ver : Nat} {fx : Bool} {a a' : Act} {w w' : World} {xs bs : List UInt8} {v' : Value} {L n t : Nat} (h : WSt P E W0 x ver fx a w xs) (hs : WSl x L n t fx) (hf : Fr (KW L n t) a a') (h1 : a'.eval (.tmp 1) = v')
  (hc : w'.ownsRow W0.heap.size E.tU8 1 v' (xs ++ bs).length ((xs ++ bs).map bv) ∧ Below W0.heap.size w w') : WSt P E W0 x ver fx a' w' (xs ++ bs) :=
 ⟨h.below.trans hc.2, by rw [h1]; exact hc.1, by rw [hf.slot _ ⟨hs.vs.2, .inl hs.vs.1⟩]; exact h.ver, fun f hh => by rw [hf.slot _ ⟨(hs.fl f hh).2, .inl (hs.fl f hh).1⟩]; exact h.fl f hh⟩
theorem WSt.size {x : Cx} {ver : Nat} {fx : Bool} {a : Act} {w : World} {xs : List UInt8} (h : WSt P E W0 x ver fx a w xs) : W0.heap.size ≤ w.heap.size := h.below.size
def Ty.Holds (W0 w : World) (a : Act) (v : Nat) (cs : List Value) (t : Ty) : Prop :=
 match t.tp with
 | some _ => ∃ b o, a.eval (.tmp v) = .pointer (some ⟨b, o, none⟩) ∧ Cells W0 b o cs
 | none => if t.arr then ∃ q, a.eval (.tmp v) = .pointer (some ⟨q, 0, none⟩) ∧ Cells w q 0 cs else cs = [a.eval (.tmp v)]
def Ty.WOk (P : Program) (E : Env) (W0 : World) (sb : Sb) (ty : Ty) : Prop :=
 ∀ (x : Cx) (ver : Nat) (fx : Bool) (L v n t b B : Nat) (a : Act) (w : World) (xs : List UInt8) (cs : List Value) (d : D) (Q : Exit → Act → World → Prop),
  ty.okW P E x = true → WSl x L n t fx → v < n → v ≠ 1 → n + ty.wn ≤ L → t + ty.wt x ≤ a.tmps.size →
  WSt P E W0 x ver fx a w xs → ty.Holds W0 w a v cs → ty.Rep W0 sb B cs d → xs.length + (ty.wr fx ver d).length ≤ big →
  (∀ a' w', Fr (KW L n t) a a' → WSt P E W0 x ver fx a' w' (xs ++ ty.wr fx ver d) → Q .normal a' w') → vc P (sq (ty.wc E x v n t b)) Q a w
def Flds.WOk (P : Program) (E : Env) (W0 : World) (sb : Sb) (fs : Flds) : Prop :=
 ∀ (x : Cx) (ver : Nat) (fx : Bool) (L TP TU s idx off n t b B pb po : Nat) (a : Act) (w : World) (xs : List UInt8) (cs : List Value) (ds : List D) (tags : List (Nat × List UInt8)) (Q : Exit → Act → World → Prop),
  fs.okW P E x TU idx off = true → WSl x L n t fx → s < n → s ≠ 1 → n + fs.wn ≤ L → t + fs.wt x ≤ a.tmps.size →
  WSt P E W0 x ver fx a w xs → a.eval (.tmp s) = .pointer (some ⟨pb, po, none⟩) → Cells W0 pb (po + off) cs → fs.Rep W0 sb B cs ds tags → xs.length + (fs.wr fx ver ds tags).length ≤ big →
  (∀ a' w', Fr (KW L n t) a a' → WSt P E W0 x ver fx a' w' (xs ++ fs.wr fx ver ds tags) → Q .normal a' w') → vc P (sq (fs.wc E x TP TU s idx n t b)) Q a w
theorem w_app {F : FuncId} {T : TypeId} {x : Cx} {ver : Nat} {fx : Bool} {L v n t : Nat} {a : Act} {w : World} {xs bs : List UInt8} {arg : Value} {Q : Exit → Act → World → Prop}
  (hs : WSl x L n t fx) (hv : v < n) (hsz : t + 3 ≤ a.tmps.size) (hst : WSt P E W0 x ver fx a w xs) (ha : a.eval (.tmp v) = arg) (hc : Wr1 P E F W0.heap.size [arg] bs w) (hb : xs.length + bs.length ≤ big)
  (k : ∀ a' w', Fr (KW L n t) a a' → WSt P E W0 x ver fx a' w' (xs ++ bs) → Q .normal a' w') : vc P (wApp E F T v t) Q a w := by
 have h1 := hs.one; have h2 := hs.nL; have h3 := hs.Lt
 exact m_app rfl ha (hc _ xs hst.own hst.size hb) hs.kt hs.k1 (by omega) (by omega) hsz (fun a' v' w' hf e hS => k a' w' hf (hst.step hs hf e hS))
theorem w_flex {F G : FuncId} {T : TypeId} {x : Cx} {ver : Nat} {fx : Bool} {L v n t : Nat} {a : Act} {w : World} {xs : List UInt8} {bs : Bool → List UInt8} {arg : Value} {Q : Exit → Act → World → Prop}
  (hs : WSl x L n t fx) (hv : v < n) (hv1 : v ≠ 1) (hsz : t + x.nt 3 ≤ a.tmps.size) (hst : WSt P E W0 x ver fx a w xs) (ha : a.eval (.tmp v) = arg)
  (hF : fx = true → Wr1 P E F W0.heap.size [arg] (bs true) w) (hG : fx = false → Wr1 P E G W0.heap.size [arg] (bs false) w) (hb : xs.length + (bs fx).length ≤ big)
  (k : ∀ a' w', Fr (KW L n t) a a' → WSt P E W0 x ver fx a' w' (xs ++ bs fx) → Q .normal a' w') : vc P (wFlex E x t 3 (wApp E F T v) (wApp E G T v)) Q a w := by
 have h1 := hs.one; have h2 := hs.nL; have h3 := hs.Lt
 refine m_flex (K := KW L n t) (fx := fx) (fun f hf => ⟨hst.fl f hf, by have := (hs.fl f hf).1; omega⟩) hs.no hs.kt (by omega) hsz ?_ ?_
 ·intro hfx a' t' hf ht' hsz' he
  subst hfx
  refine w_app (n := n) (L := L) (hs.up (Nat.le_refl _) hs.nL ht') hv (by rw [hf.size]; exact hsz') (hst.fr hs hf (he 1 (by omega))) (by rw [he v (by omega)]; exact ha) (hF rfl) hb ?_
  exact fun a2 w2 hf2 hst2 => k a2 w2 (hf.trans (hf2.mono (KW.mono (Nat.le_refl _) ht'))) hst2
 ·intro hfx a' t' hf ht' hsz' he
  subst hfx
  refine w_app (n := n) (L := L) (hs.up (Nat.le_refl _) hs.nL ht') hv (by rw [hf.size]; exact hsz') (hst.fr hs hf (he 1 (by omega))) (by rw [he v (by omega)]; exact ha) (hG rfl) hb ?_
  exact fun a2 w2 hf2 hst2 => k a2 w2 (hf.trans (hf2.mono (KW.mono (Nat.le_refl _) ht'))) hst2
theorem Cx.ok_inv {x : Cx} {F G : FuncId} (h : x.ok F G = true) : G ≠ 0 ∧ (∀ fx, (x.fl = none → fx = false) → fx = true → F ≠ 0) := by
 simp only [Cx.ok, Bool.and_eq_true, bne_iff_ne, ne_eq, Bool.or_eq_true] at h
 refine ⟨h.1, fun fx hno hfx => ?_⟩
 rcases h.2 with h | h
 ·cases hx : x.fl with
  | none => have := hno hx; rw [this] at hfx; cases hfx
  | some f => rw [hx] at h; cases h
 ·exact h
theorem wok_scal (H : EnvW P E sb.T) (s : Scal) (df : Int) : (Ty.scal s df).WOk P E W0 sb := by
 intro x ver fx L v n t b B a w xs cs d Q hok hs hv hv1 hn ht hst hh hr hb k
 simp only [Ty.okW, Bool.and_eq_true, bne_iff_ne, ne_eq] at hok
 cases d with
 | int m =>
  simp only [Ty.Rep] at hr
  simp only [Ty.Holds, Ty.tp, Ty.arr] at hh
  have he : a.eval (.tmp v) = s.val m := by
   have := hh.symm.trans hr.1
   simpa using this
  simp only [Ty.wr] at hb k
  simp only [Ty.wc]
  exact w_app hs hv ht hst he (H.scal s hok.1 m _ _ hr.2) hb k
 | _ => exact absurd hr (by simp [Ty.Rep])
theorem wok_named (H : EnvW P E sb.T) (s : Scal) (T : TypeId) (df : Int) : (Ty.named s T df).WOk P E W0 sb := by
 intro x ver fx L v n t b B a w xs cs d Q hok hs hv hv1 hn ht hst hh hr hb k
 simp only [Ty.okW, Bool.and_eq_true, bne_iff_ne, ne_eq] at hok
 have h1 := hs.one; have h2 := hs.nL; have h3 := hs.Lt
 simp only [Ty.wn] at hn
 simp only [Ty.wt] at ht
 cases d with
 | int m =>
  simp only [Ty.Rep] at hr
  simp only [Ty.Holds, Ty.tp, Ty.arr] at hh
  have he : a.eval (.tmp v) = s.val m := by
   have := hh.symm.trans hr.1
   simpa using this
  simp only [Ty.wr] at hb k
  simp only [Ty.wc]
  refine vX (rM (rA (dn ?_)))
  have hf : Fr (KW L n t) a ((a.put (some t) (a.eval (.tmp v))).put (some n) ((a.put (some t) (a.eval (.tmp v))).eval (.tmp t))) :=
   ((Fr.refl _ a).put _ (hs.kt t (Nat.le_refl _))).put _ (by rintro ⟨_, h | h⟩ <;> omega)
  have he1 : ((a.put (some t) (a.eval (.tmp v))).put (some n) ((a.put (some t) (a.eval (.tmp v))).eval (.tmp t))).eval (.tmp 1) = a.eval (.tmp 1) := by simp (disch := (try simp only [sP]); omega) only [eV]
  have hen : ((a.put (some t) (a.eval (.tmp v))).put (some n) ((a.put (some t) (a.eval (.tmp v))).eval (.tmp t))).eval (.tmp n) = s.val m := by simp (disch := (try simp only [sP]); omega) only [eV, he]
  refine vS (w_app (n := n + 1) (t := t + 1) (hs.up (by omega) (by omega) (by omega)) (by omega) (by rw [hf.size]; omega) (hst.fr hs hf he1) hen (H.scal s hok.1 m _ _ hr.2) hb ?_)
  exact fun a' w' hf' hst' => vN (k a' w' (hf.trans (hf'.mono (KW.mono (by omega) (by omega)))) hst')
 | _ => exact absurd hr (by simp [Ty.Rep])
theorem wok_uuid (H : EnvW P E sb.T) : (Ty.uuid).WOk P E W0 sb := by
 intro x ver fx L v n t b B a w xs cs d Q hok hs hv hv1 hn ht hst hh hr hb k
 simp only [Ty.okW, Bool.and_eq_true, bne_iff_ne, ne_eq, beq_iff_eq] at hok
 have h1 := hs.one; have h2 := hs.nL; have h3 := hs.Lt
 cases d with
 | bytes o =>
  cases o with
  | none => exact absurd hr (by simp [Ty.Rep])
  | some l =>
   simp only [Ty.Rep] at hr
   obtain ⟨hl, rfl⟩ := hr
   simp only [Ty.Holds, Ty.tp, Ty.arr, if_true] at hh
   obtain ⟨q, hq, hc⟩ := hh
   simp only [Ty.wr] at hb k
   simp only [Ty.wc]
   refine vS (m_appArr (K := KW L n t) rfl hq (by rw [hok.1.2]; simp [hl]) hc (H.uuid hok.1.1 l _ _ hl _ xs hst.own hst.size hb) hs.kt hs.k1 (by omega) (by omega) ht ?_)
   exact fun a' v' w' hf e hS => vN (k a' w' hf (hst.step hs hf e hS))
 | _ => exact absurd hr (by simp [Ty.Rep])
theorem wok_text (H : EnvW P E sb.T) : (Ty.text).WOk P E W0 sb := by
 intro x ver fx L v n t b B a w xs cs d Q hok hs hv hv1 hn ht hst hh hr hb k
 simp only [Ty.okW, Bool.and_eq_true] at hok
 obtain ⟨hG, hF⟩ := Cx.ok_inv hok.1
 cases d with
 | bytes o =>
  cases o with
  | none => exact absurd hr (by simp [Ty.Rep])
  | some l =>
   simp only [Ty.Rep] at hr
   simp only [Ty.Holds, Ty.tp, Ty.arr] at hh
   have he : a.eval (.tmp v) = .string ⟨l.toArray⟩ := by
    have := hh.symm.trans hr
    simpa using this
   simp only [Ty.wr] at hb k
   simp only [Ty.wc]
   exact w_flex (bs := fun fx => wrStr fx l) hs hv hv1 ht hst he (fun hfx => H.cstr (hF fx hs.no hfx) l _ _) (fun _ => H.str hG l _ _) hb k
 | _ => exact absurd hr (by simp [Ty.Rep])
theorem pstr_of_rep {w : World} {B : Nat} {v : Value} {o : Option (List UInt8)} (hw : Below W0.heap.size W0 w) (h : (Ty.ntext).Rep W0 sb B [v] (.bytes o)) : PStrAt w W0.heap.size v o := by
 cases o with
 | none => simp only [Ty.Rep] at h; simpa [PStrAt] using h
 | some l =>
  simp only [Ty.Rep] at h
  obtain ⟨q, hv, _, hc⟩ := h
  have hq := lt_of_cell hc
  exact ⟨q, by simpa using hv, hq, by rw [hw.cell (p := ⟨q, 0, none⟩) hq]; exact hc⟩
theorem Cells.below {w w' : World} {B b o : Nat} {cs : List Value} (h : Cells w b o cs) (hw : Below B w w') (hb : b < B) : Cells w' b o cs :=
 fun i v hv => by rw [hw.cell (p := ⟨b, o + i, none⟩) hb]; exact h i v hv
theorem oct_of_rep {w : World} {B : Nat} {v : Value} {o : Option (List UInt8)} (hw : Below W0.heap.size W0 w) (h : (Ty.nbytes).Rep W0 sb B [v] (.bytes o)) : OctAt w W0.heap.size v o := by
 cases o with
 | none => simp only [Ty.Rep] at h; simpa [OctAt] using h
 | some l =>
  simp only [Ty.Rep] at h
  obtain ⟨q, o, cap, hv, _, hc, hq⟩ := h
  exact ⟨q, o, cap, by simpa using hv, hq, hc.below hw hq⟩
theorem wok_ntext (H : EnvW P E sb.T) : (Ty.ntext).WOk P E W0 sb := by
 intro x ver fx L v n t b B a w xs cs d Q hok hs hv hv1 hn ht hst hh hr hb k
 simp only [Ty.okW, Bool.and_eq_true] at hok
 obtain ⟨hG, hF⟩ := Cx.ok_inv hok.1
 have hh' : cs = [a.eval (.tmp v)] := by simpa [Ty.Holds, Ty.tp, Ty.arr] using hh
 subst hh'
 cases d with
 | bytes o =>
  have hp : PStrAt w W0.heap.size (a.eval (.tmp v)) o := pstr_of_rep hst.below hr
  simp only [Ty.wr] at hb k
  simp only [Ty.wc]
  exact w_flex (bs := fun fx => wrNStr fx o) hs hv hv1 ht hst rfl (fun hfx => H.cnstr (hF fx hs.no hfx) _ o _ _ hp) (fun _ => H.nstr hG _ o _ _ hp) hb k
 | _ => exact absurd hr (by simp [Ty.Rep])
theorem r_neNilP {d T x ty p af g ad} {e : TypeId} {a : Act} {w : World} {r : List Oper} {Q : Exit → Act → World → Prop} (hT : P.underlying T = some (.pointer e)) (hx : a.eval x = .pointer ad) (h : rO_ P Q r (a.put (some d) (.bool (!ad.isNone))) w) :
  rO_ P Q (⟨some d, .binOp .neq T x (.const (.pointer none)) T, ty, p, af, g⟩ :: r) a w := by
 refine st ?_
 have hb : (binOp .neq T (.pointer ad) (.pointer none)).run P w = .ok (.bool (!ad.isNone)) w := by
  have h0 : ∀ k : Nat, (Op.equalIn (k + 1) T (.pointer ad) (.pointer none)).run P w = .ok ad.isNone w := fun k => by
   cases ad <;> simp [Op.equalIn, run_underlying hT]
  simp only [binOp]
  simp [Op.equal, Op.maxDepth, h0 9999]
 have hg : (eqGuard .neq T x (.const (.pointer none)) (.pointer ad) (.pointer none)) = pure () := by cases ad <;> rfl
 simp only [Oper.wp, execOp, hx, eval_const, hg, hb, Sem.run_bind, Sem.run_pure, Result.andThen_ok, Oper.upon_value]
 exact h
set_option maxHeartbeats 1000000 in
theorem wok_ntextFrom (H : EnvW P E sb.T) (N : Nat) : (Ty.ntextFrom N).WOk P E W0 sb := by
 intro x ver fx L v n t b B a w xs cs d Q hok hs hv hv1 hn ht hst hh hr hb k
 simp only [Ty.okW, Bool.and_eq_true] at hok
 obtain ⟨⟨⟨⟨hok1, hok2⟩, hP⟩, hS⟩, hT⟩ := hok
 obtain ⟨hG1, hF1⟩ := Cx.ok_inv hok1
 obtain ⟨hG2, hF2⟩ := Cx.ok_inv hok2
 obtain ⟨te, hT⟩ := ptrB_inv hT
 have h1 := hs.one; have h2 := hs.nL; have h3 := hs.Lt
 simp only [Ty.wn] at hn
 simp only [Ty.wt] at ht
 have hh' : cs = [a.eval (.tmp v)] := by simpa [Ty.Holds, Ty.tp, Ty.arr] using hh
 subst hh'
 cases d with
 | bytes o =>
  have hr' : (Ty.ntext).Rep W0 sb B [a.eval (.tmp v)] (.bytes o) := by cases o <;> simpa [Ty.Rep] using hr
  have hp : PStrAt w W0.heap.size (a.eval (.tmp v)) o := pstr_of_rep hst.below hr'
  simp only [Ty.wr] at hb k
  simp only [Ty.wc]
  refine vS (m_ifLss (K := KW L n t) hst.ver (by have := hs.vs.1; omega) hs.kt (by omega) ?_ ?_)
  ·intro hlt a1 hf1 he1
   rw [if_pos hlt] at hb
   simp only [if_pos hlt] at k
   have hz1 := hf1.size
   have fin : ∀ a2, Fr (KW L n t) a a2 → a2.eval (.tmp n) = .string ⟨(o.getD []).toArray⟩ → a2.eval (.tmp 1) = a.eval (.tmp 1) →
     vc P (sq [rg [oMove (t + 7) (.tmp n) E.tStr, oAssign (n + 1) (.tmp (t + 7)) E.tStr], wFlex E x (t + 8) 3 (wApp E E.wCStr E.tStr (n + 1)) (wApp E E.wStr E.tStr (n + 1))]) (Exit.then (vc P (sq []) Q) Q) a2 w := by
    intro a2 hf2 hen he21
    have hz2 := hf2.size
    refine vX (rM (rA (dn ?_)))
    generalize ha3 : Act.put _ (some (n + 1)) _ = a3
    have hf3 : Fr (KW L n t) a a3 := by
     subst ha3
     exact (hf2.put _ (hs.kt _ (by omega))).put _ (by rintro ⟨_, h | h⟩ <;> omega)
    have he3 : a3.eval (.tmp (n + 1)) = .string ⟨(o.getD []).toArray⟩ := by subst ha3; simp (disch := (try simp only [sP]); omega) only [eV, hen]
    have he31 : a3.eval (.tmp 1) = a.eval (.tmp 1) := by subst ha3; simp (disch := (try simp only [sP]); omega) only [eV, he21]
    clear ha3
    refine vS (w_flex (n := n + 2) (L := L) (t := t + 8) (bs := fun fx => wrStr fx (o.getD [])) (hs.up (by omega) (by omega) (by omega)) (by omega) (by omega) (by rw [hf3.size]; omega) (hst.fr hs hf3 he31) he3 (fun hfx => H.cstr (hF1 fx hs.no hfx) _ _ _) (fun _ => H.str hG1 _ _ _) hb ?_)
    exact fun a4 w4 hf4 hst4 => vN (vN (k a4 w4 (hf3.trans (hf4.mono (KW.mono (by omega) (by omega)))) hst4))
   have hva : a1.eval (.tmp v) = a.eval (.tmp v) := he1 v (by omega)
   have h11 : a1.eval (.tmp 1) = a.eval (.tmp 1) := he1 1 (by omega)
   refine vX (rA (dn ?_))
   generalize ha2 : Act.put a1 (some n) _ = a2
   have hf2 : Fr (KW L n t) a a2 := by subst ha2; exact hf1.put _ (by rintro ⟨_, h | h⟩ <;> omega)
   have hz2 := hf2.size
   have he2 : a2.eval (.tmp n) = .string ⟨#[]⟩ := by subst ha2; simp (disch := (try simp only [sP]); omega) only [eV]
   have he2v : a2.eval (.tmp v) = a.eval (.tmp v) := by subst ha2; simp (disch := (try simp only [sP]); omega) only [eV, hva]
   have he21 : a2.eval (.tmp 1) = a.eval (.tmp 1) := by subst ha2; simp (disch := (try simp only [sP]); omega) only [eV, h11]
   clear ha2
   refine vS (vX (rM ?_))
   cases o with
   | none =>
    have hpv : a.eval (.tmp v) = .pointer none := hp
    refine r_neNilP (ad := none) hT (by simp (disch := (try simp only [sP]); omega) only [eV, he2v, hpv]) ?_
    refine dn ?_
    refine vS (vC (t := false) (by simp (disch := (try simp only [sP]); omega) only [eV, Option.isNone, Bool.not_true]) (fun h => by cases h) (fun _ => ?_))
    refine vK (vN ?_)
    refine fin _ ((hf2.put _ (hs.kt _ (by omega))).put _ (hs.kt _ (by omega))) ?_ ?_
    ·simp (disch := (try simp only [sP]); omega) only [eV, he2]
     rfl
    ·simp (disch := (try simp only [sP]); omega) only [eV, he21]
   | some l =>
    obtain ⟨q, hpv, hq, hqc⟩ := hp
    refine r_neNilP (ad := some ⟨q, 0, none⟩) hT (by simp (disch := (try simp only [sP]); omega) only [eV, he2v, hpv]) ?_
    refine dn ?_
    refine vS (vC (t := true) (by simp (disch := (try simp only [sP]); omega) only [eV, Option.isNone, Bool.not_false]) (fun _ => ?_) (fun h => by cases h))
    refine vR (by simp) ?_
    refine rM ?_
    refine r_nil (ad := ⟨q, 0, none⟩) (by simp (disch := (try simp only [sP]); omega) only [eV, he2v, hpv]) ?_
    refine rL (b := q) (o := 0) (v := .string ⟨l.toArray⟩) (by simp (disch := (try simp only [sP]); omega) only [eV]) hS hqc ?_
    refine rA (dn (vN ?_))
    refine fin _ ((((((hf2.put _ (hs.kt _ (by omega))).put _ (hs.kt _ (by omega))).put _ (hs.kt _ (by omega))).put _ (hs.kt _ (by omega))).put _ (hs.kt _ (by omega))).put _ (by rintro ⟨_, h | h⟩ <;> omega)) ?_ ?_
    ·simp (disch := (try simp only [sP]); omega) only [eV]
     rfl
    ·simp (disch := (try simp only [sP]); omega) only [eV, he21]
  ·intro hlt a1 hf1 he1
   rw [if_neg hlt] at hb
   simp only [if_neg hlt] at k
   have hva : a1.eval (.tmp v) = a.eval (.tmp v) := he1 v (by omega)
   have h11 : a1.eval (.tmp 1) = a.eval (.tmp 1) := he1 1 (by omega)
   refine w_flex (n := n) (L := L) (t := t + 8 + x.nt 3) (bs := fun fx => wrNStr fx o) (hs.up (Nat.le_refl _) (by omega) (by omega)) hv hv1 (by rw [hf1.size]; omega) (hst.fr hs hf1 h11) hva (fun hfx => H.cnstr (hF2 fx hs.no hfx) _ o _ _ hp) (fun _ => H.nstr hG2 _ o _ _ hp) hb ?_
   exact fun a4 w4 hf4 hst4 => vN (k a4 w4 (hf1.trans (hf4.mono (KW.mono (by omega) (by omega)))) hst4)
 | _ => exact absurd hr (by simp [Ty.Rep])
theorem wok_bytes (H : EnvW P E sb.T) : (Ty.bytes).WOk P E W0 sb := by
 intro x ver fx L v n t b B a w xs cs d Q hok hs hv hv1 hn ht hst hh hr hb k
 simp only [Ty.okW, Bool.and_eq_true] at hok
 obtain ⟨hG, hF⟩ := Cx.ok_inv hok.1
 have hh' : cs = [a.eval (.tmp v)] := by simpa [Ty.Holds, Ty.tp, Ty.arr] using hh
 subst hh'
 cases d with
 | bytes o =>
  have hr' : (Ty.nbytes).Rep W0 sb B [a.eval (.tmp v)] (.bytes o) := by cases o <;> simpa [Ty.Rep] using hr
  have hp : OctAt w W0.heap.size (a.eval (.tmp v)) o := oct_of_rep hst.below hr'
  simp only [Ty.wr] at hb k
  simp only [Ty.wc]
  exact w_flex (bs := fun fx => wrBytes fx (o.getD [])) hs hv hv1 ht hst rfl (fun hfx => H.cocts (hF fx hs.no hfx) _ o _ _ hp) (fun _ => H.octs hG _ o _ _ hp) hb k
 | _ => exact absurd hr (by simp [Ty.Rep])
theorem wok_nbytes (H : EnvW P E sb.T) : (Ty.nbytes).WOk P E W0 sb := by
 intro x ver fx L v n t b B a w xs cs d Q hok hs hv hv1 hn ht hst hh hr hb k
 simp only [Ty.okW, Bool.and_eq_true] at hok
 obtain ⟨hG, hF⟩ := Cx.ok_inv hok.1
 have hh' : cs = [a.eval (.tmp v)] := by simpa [Ty.Holds, Ty.tp, Ty.arr] using hh
 subst hh'
 cases d with
 | bytes o =>
  have hp : OctAt w W0.heap.size (a.eval (.tmp v)) o := oct_of_rep hst.below hr
  simp only [Ty.wr] at hb k
  simp only [Ty.wc]
  exact w_flex (bs := fun fx => wrNBytes fx o) hs hv hv1 ht hst rfl (fun hfx => H.cnocts (hF fx hs.no hfx) _ o _ _ hp) (fun _ => H.nocts hG _ o _ _ hp) hb k
 | _ => exact absurd hr (by simp [Ty.Rep])
end
end Go.Km
namespace Go.Km
open Go Go.RowKit
attribute [local irreducible] vc rO_ runG
theorem uvF_pos (f n : Nat) : 1 ≤ (uvF f n).length := by
 cases f with
 | zero => simp [uvF]
 | succ f => simp only [uvF]; split <;> simp
theorem uvar_pos (n : Nat) : 1 ≤ (uvar n).length := uvF_pos 9 n
theorem tags_short (tags : List (Nat × List UInt8)) : tags.length ≤ ((tags.map wrTag).flatten).length := by
 induction tags with
 | nil => simp
 | cons x l ih =>
  have := uvar_pos x.1
  simp only [List.map_cons, List.flatten_cons, List.length_cons, List.length_append, wrTag]
  omega
section
variable {P : Program} {E : Env} {W0 : World} {sb : Sb}
structure EnvI (P : Program) (E : Env) : Prop where
 int : intT P E.tI = some .i64
 u32 : intT P E.tW = some .u32
theorem ownsRow_grow {w w' : World} {B e s : Nat} {v : Value} {n : Nat} {xs : List Value} (h : w.ownsRow B e s v n xs) (hg : Grow w w') : w'.ownsRow B e s v n xs := by
 refine ⟨h.1, ?_⟩
 rcases h.2 with hn | ⟨g, cap, cur, hv, hb, hh, r⟩
 ·exact .inl hn
 ·refine .inr ⟨g, cap, cur, hv, hb, ?_, r⟩
  rw [hg.blockEq (Array.getElem?_eq_some_iff.1 hh).1 (fun _ h => h)]
  exact hh
theorem OctRep.mono {w : World} {B B' : Nat} {v : Value} {l : List UInt8} (h : OctRep w sb B v l) (hB : B' ≤ B) : OctRep w sb B' v l := by
 rcases h with h | ⟨c, o, cap, hv, hc, h⟩
 ·exact .inl h
 ·exact .inr ⟨c, o, cap, hv, hc.imp id (fun h => by omega), h⟩
theorem TagsRep.mono {w : World} {B B' : Nat} {v : Value} {tags : List (Nat × List UInt8)} (h : TagsRep w sb B v tags) (hB : B' ≤ B) : TagsRep w sb B' v tags := by
 obtain ⟨h1, h0, h2⟩ := h
 refine ⟨h1, h0, ?_⟩
 rcases h2 with h2 | ⟨q, es, clock, hv, hq, hs, hm, hb, hn, l, hl, hsz, he⟩
 ·exact .inl h2
 ·refine .inr ⟨q, es, clock, hv, by omega, hs, hm, hb, hn, l, hl, hsz, fun i x hx => ?_⟩
  obtain ⟨e, h1, h2, h3⟩ := he i x hx
  exact ⟨e, h1, h2, h3.mono hB⟩
section
variable {Q : Exit → Act → World → Prop} {a : Act} {w : World} {K : Nat → Prop}
theorem m_tagsA {TP TU : TypeId} {s f t pb po off : Nat} {dv : Value} {n : Nat} {S1 : World → Prop} {S : Value → World → Prop} (HI : EnvI P E) (hd : a.eval (.tmp 1) = dv) (hp : a.eval (.tmp s) = .pointer (some ⟨pb, po, none⟩)) (hoff : fieldOff P TU f = some off)
  (hlen : CallsV P E.tLen #[.pointer (some ⟨pb, po + off, none⟩)] w fun r w' => r = .int .i64 (n : Int) ∧ S1 w') (hn : n < 4294967296)
  (happ : ∀ w1, S1 w1 → CallsV P E.wUvarint #[dv, .int .u32 (n : Int)] w1 S) (ht : ∀ d, t ≤ d → ¬ K d) (hk1 : ¬ K 1) (h1 : 1 < t) (hst : s < t) (hsz : t + 9 ≤ a.tmps.size)
  (k : ∀ a' v' w', Fr K a a' → a'.eval (.tmp 1) = v' → S v' w' → Q .normal a' w') :
  vc P (rg [oMove (t + 1) (.tmp 1) E.tB, oMove (t + 2) (.tmp s) TP, oNil (t + 3) (.tmp (t + 2)), oField (t + 4) TU (.tmp (t + 3)) f, oCall (some (t + 5)) E.tLen #[.tmp (t + 4)] #[E.tTags] E.tI,
    oConv (t + 6) E.tI E.tW (.tmp (t + 5)), oBin (t + 7) .add E.tW (.const (.int .u32 0)) (.tmp (t + 6)) E.tW E.tW,
    oCall (some (t + 8)) E.wUvarint #[.tmp (t + 1), .tmp (t + 7)] #[E.tB, E.tW] E.tB, oAssign 1 (.tmp (t + 8)) E.tB]) Q a w := by
 have hwr : IntKind.u32.wrap (n : Int) = (n : Int) := IntWalk.u32_in _ ⟨by omega, by omega⟩
 refine vR (by simp) ?_
 refine rM (rM ?_)
 refine r_nil (ad := ⟨pb, po, none⟩) (by simp (disch := (try simp only [sP]); omega) only [eV, hp]) ?_
 refine rF (b := pb) (o := po) (by simp (disch := (try simp only [sP]); omega) only [eV]) hoff ?_
 refine r_call' (args := #[.pointer (some ⟨pb, po + off, none⟩)]) ?_ hlen ?_
 ·simp only [lM]
  simp (disch := (try simp only [sP]); omega) only [eV]
 rintro r w1 ⟨rfl, hs1⟩
 refine r_conv (k := .i64) (k' := .u32) (m := n) HI.int HI.u32 (by simp (disch := (try simp only [sP]); omega) only [eV]) ?_
 rw [hwr]
 refine r_add (k := .u32) (m := 0) (n := n) rfl (by simp (disch := (try simp only [sP]); omega) only [eV]) ?_
 rw [Int.zero_add, hwr]
 refine r_call' (args := #[dv, .int .u32 (n : Int)]) ?_ (happ w1 hs1) ?_
 ·simp only [lM]
  simp (disch := (try simp only [sP]); omega) only [eV, hd]
 intro v' w2 hs2
 refine rA (dn ?_)
 refine k _ v' w2 ?_ (by simp (disch := (try simp only [sP]); omega) only [eV]) hs2
 exact (((((((((Fr.refl K a).put _ (ht _ (by omega))).put _ (ht _ (by omega))).put _ (ht _ (by omega))).put _ (ht _ (by omega))).put _ (ht _ (by omega))).put _ (ht _ (by omega))).put _ (ht _ (by omega))).put _ (ht _ (by omega))).put _ hk1
theorem m_tagsB {TP TU : TypeId} {s f t pb po off : Nat} {dv : Value} {S : Value → World → Prop} (hd : a.eval (.tmp 1) = dv) (hp : a.eval (.tmp s) = .pointer (some ⟨pb, po, none⟩)) (hoff : fieldOff P TU f = some off)
  (hc : CallsV P E.tEach #[.pointer (some ⟨pb, po + off, none⟩), dv] w S) (ht : ∀ d, t ≤ d → ¬ K d) (hk1 : ¬ K 1) (h1 : 1 < t) (hst : s < t) (hsz : t + 14 ≤ a.tmps.size)
  (k : ∀ a' v' w', Fr K a a' → a'.eval (.tmp 1) = v' → S v' w' → Q .normal a' w') :
  vc P (rg [oMove (t + 9) (.tmp s) TP, oNil (t + 10) (.tmp (t + 9)), oField (t + 11) TU (.tmp (t + 10)) f, oMove (t + 12) (.tmp 1) E.tB,
    oCall (some (t + 13)) E.tEach #[.tmp (t + 11), .tmp (t + 12)] #[E.tTags, E.tB] E.tB, oAssign 1 (.tmp (t + 13)) E.tB]) Q a w := by
 refine vR (by simp) ?_
 refine rM ?_
 refine r_nil (ad := ⟨pb, po, none⟩) (by simp (disch := (try simp only [sP]); omega) only [eV, hp]) ?_
 refine rF (b := pb) (o := po) (by simp (disch := (try simp only [sP]); omega) only [eV]) hoff ?_
 refine rM ?_
 refine r_call' (args := #[.pointer (some ⟨pb, po + off, none⟩), dv]) ?_ hc ?_
 ·simp only [lM]
  simp (disch := (try simp only [sP]); omega) only [eV, hd]
 intro v' w2 hs2
 refine rA (dn ?_)
 refine k _ v' w2 ?_ (by simp (disch := (try simp only [sP]); omega) only [eV]) hs2
 exact ((((((Fr.refl K a).put _ (ht _ (by omega))).put _ (ht _ (by omega))).put _ (ht _ (by omega))).put _ (ht _ (by omega))).put _ (ht _ (by omega))).put _ hk1
end
theorem wok_nil (H : EnvW P E sb.T) (HI : EnvI P E) (tg : Bool) : (Flds.nil tg).WOk P E W0 sb := by
 intro x ver fx L TP TU s idx off n t b B pb po a w xs cs ds tags Q hok hs hsn hs1 hn ht hst hp hc hr hb k
 have h1 := hs.one; have h2 := hs.nL; have h3 := hs.Lt
 simp only [Flds.wc, wTags]
 cases hx : x.fl with
 | none =>
  have hfx := hs.no hx
  subst hfx
  refine vN (k a w (Fr.refl _ _) ?_)
  simpa [Flds.wr] using hst
 | some f =>
  simp only [Flds.okW, hx, Option.isNone_some, Bool.false_or, Bool.and_eq_true, bne_iff_ne, ne_eq, beq_iff_eq] at hok
  obtain ⟨⟨⟨⟨rfl, hoff⟩, htl⟩, hte⟩, hu⟩ := hok
  simp only [Flds.wt, hx] at ht
  cases ds with
  | cons d ds => exact absurd hr (by simp [Flds.Rep])
  | nil =>
  simp only [Flds.Rep, if_true] at hr
  obtain ⟨v, rfl, htr0⟩ := hr
  have htr := htr0.mono (Nat.zero_le B)
  have hcv : W0.cell? ⟨pb, po + off, none⟩ = some v := by have := hc 0 v rfl; simpa using this
  have hfl := hst.fl f hx
  have hfn := hs.fl f hx
  refine vS (vX (rM (dn ?_)))
  have hf0 : Fr (KW L n t) a (a.put (some t) (a.eval (.tmp f))) := (Fr.refl _ a).put _ (hs.kt t (Nat.le_refl _))
  have hst0 := hst.fr hs hf0 (eval_put_ne _ _ _ _ (by omega))
  have hsz0 : (a.put (some t) (a.eval (.tmp f))).tmps.size = a.tmps.size := zP _ _ _
  refine vS (vC (t := fx) (by simp (disch := (try simp only [sP]); omega) only [eV, hfl]) ?_ ?_)
  ·intro hfx
   subst hfx
   simp only [Flds.wr, if_true] at hb k
   have htb := tags_short tags
   simp only [wrTags, List.length_append] at hb
   have hlt : tags.length < 4294967296 := by unfold big at hb; omega
   refine vS (m_tagsA (K := KW L n t) (n := tags.length) (S1 := Grow w) HI rfl (by rw [eval_put_ne _ _ _ _ (by omega)]; exact hp) hoff (H.tlen htl W0 sb pb (po + off) v tags _ rfl hcv htr hst.below) hlt
    (S := fun v' w' => w'.ownsRow W0.heap.size E.tU8 1 v' (xs ++ uvar tags.length).length ((xs ++ uvar tags.length).map bv) ∧ Below W0.heap.size w w') ?_ hs.kt hs.k1 (by omega) (by omega) (by omega) ?_)
   ·intro w1 hg
    refine (H.uvar hu tags.length W0.heap.size w1 hlt _ xs (ownsRow_grow hst0.own hg) (by have := hg.size; have := hst.size; omega) (by omega)).mono ?_
    rintro v' w' ⟨h1, h2⟩
    exact ⟨h1, (hg.below.mono hst.size).trans h2⟩
   intro a1 v1 w1 hf1 e1 hS1
   have hst1 := hst0.step hs hf1 e1 hS1
   refine vS (m_tagsB (K := KW L n t) rfl (by rw [hf1.slot s ⟨hs1, .inl hsn⟩, eval_put_ne _ _ _ _ (by omega)]; exact hp) hoff
    (H.teach hte W0 sb pb (po + off) v tags w1 rfl hcv htr hst1.below _ _ hst1.own (by simp only [List.length_append]; omega)) hs.kt hs.k1 (by omega) (by omega) (by rw [hf1.size]; omega) ?_)
   intro a2 v2 w2 hf2 e2 hS2
   have hst2 := hst1.step hs hf2 e2 hS2
   refine vN (vN (vN (k a2 w2 ((hf0.trans hf1).trans hf2) ?_)))
   simpa [wrTags] using hst2
  ·intro hfx
   subst hfx
   refine vK (vN (vN (k _ w hf0 ?_)))
   simpa [Flds.wr] using hst0
def KW1 (L n t : Nat) (k : Nat) : Prop := k < n ∨ (L ≤ k ∧ k < t)
theorem okW_one {x : Cx} {ty : Ty} (h : ty.okW P E x = true) (h1 : ty.tp = none) (h2 : ty.arr = false) : oneT P (ty.T E) = true ∧ ty.size = 1 := by
 cases ty <;> simp_all [Ty.okW, Ty.tp, Ty.arr, Ty.T, Ty.size]
theorem okW_arr {x : Cx} {ty : Ty} (h : ty.okW P E x = true) (h2 : ty.arr = true) : ty.tp = none ∧ aggT P (ty.T E) = some 16 ∧ zeroAgg P (ty.T E) 16 = true ∧ ty.size = 16 ∧
  ∀ cs B d, ty.Rep W0 sb B cs d → cs.length = 16 ∧ ∀ v ∈ cs, v.oneCell' = true := by
 cases ty <;> simp_all [Ty.okW, Ty.tp, Ty.arr, Ty.T, Ty.size]
 intro cs B d hr
 cases d with
 | bytes o =>
  cases o with
  | none => exact absurd hr (by simp [Ty.Rep])
  | some l =>
   simp only [Ty.Rep] at hr
   obtain ⟨hl, rfl⟩ := hr
   refine ⟨by simp [hl], ?_⟩
   intro v hv
   obtain ⟨b, _, rfl⟩ := List.mem_map.1 hv
   rfl
 | _ => exact absurd hr (by simp [Ty.Rep])
theorem Cells.take {w : World} {b o : Nat} {cs : List Value} (h : Cells w b o cs) (n : Nat) : Cells w b o (cs.take n) := fun i v hv => h i v (by
 rw [List.getElem?_take] at hv
 split at hv
 ·exact hv
 ·cases hv)
theorem Cells.drop {w : World} {b o : Nat} {cs : List Value} (h : Cells w b o cs) (n : Nat) : Cells w b (o + n) (cs.drop n) := fun i v hv => by
 rw [List.getElem?_drop] at hv
 have := h (n + i) v hv
 rwa [show o + n + i = o + (n + i) by omega]
set_option maxHeartbeats 1000000 in
theorem wok_cons (v : Ver) (ty : Ty) (r : Flds) (hty : ty.WOk P E W0 sb) (hr' : r.WOk P E W0 sb) (hrep : ∀ cs B d, ty.Rep W0 sb B cs d → ty.tp = none → ty.arr = false → ∃ u, cs = [u]) : (Flds.cons v ty r).WOk P E W0 sb := by
 intro x ver fx L TP TU s idx off n t b B pb po a w xs cs ds tags Q hok hs hsn hs1 hn ht hst hp hc hr hb k
 have h1 := hs.one; have h2 := hs.nL; have h3 := hs.Lt
 simp only [Flds.okW, Bool.and_eq_true, beq_iff_eq] at hok
 obtain ⟨⟨hoff, hokt⟩, hokr⟩ := hok
 cases ds with
 | nil => exact absurd hr (by simp [Flds.Rep])
 | cons d ds =>
 simp only [Flds.Rep] at hr
 obtain ⟨hrt, hrr⟩ := hr
 simp only [Flds.wn] at hn
 simp only [Flds.wt] at ht
 simp only [Flds.wr] at hb k
 simp only [Flds.wc]
 -- the rest
 have hrest : ∀ (part : List UInt8) a1 w1, part = (if v.has ver = true then ty.wr fx ver d else []) → Fr (KW L n t) a a1 → WSt P E W0 x ver fx a1 w1 (xs ++ part) →
   vc P (sq (r.wc E x TP TU s (idx + 1) (n + 1 + ty.wn) (t + v.nt + ty.h + ty.wt x) (b + ty.wb))) Q a1 w1 := by
  intro part a1 w1 hpart hf hst1
  refine hr' x ver fx L TP TU s (idx + 1) (off + ty.size) (n + 1 + ty.wn) _ (b + ty.wb) B pb po a1 w1 (xs ++ part) (cs.drop ty.size) ds tags Q hokr (hs.up (by omega) (by omega) (by omega)) (by omega) hs1 (by omega) (by rw [hf.size]; omega) hst1 (by rw [hf.slot s ⟨hs1, .inl hsn⟩]; exact hp) (by have := hc.drop ty.size; rwa [Nat.add_assoc] at this) hrr ?_ ?_
  ·rw [hpart]
   simp only [List.length_append] at hb ⊢
   omega
  ·intro a2 w2 hf2 hst2
   refine k a2 w2 (hf.trans (hf2.mono (KW.mono (by omega) (by omega)))) ?_
   rw [hpart] at hst2
   simpa [List.append_assoc] using hst2
 refine vS (m_ver (K := KW L n t) hst.ver (by have := hs.vs.1; omega) hs.kt (by omega) ?_ ?_)
 ·intro hhas a0 hf0 he0
  have hst0 := hst.fr hs hf0 (he0 1 (by omega))
  have hp0 : a0.eval (.tmp s) = .pointer (some ⟨pb, po, none⟩) := by rw [he0 s (by omega)]; exact hp
  have hsz0 := hf0.size
  have hpart : ty.wr fx ver d = (if v.has ver = true then ty.wr fx ver d else []) := by rw [if_pos hhas]
  have hbt : xs.length + (ty.wr fx ver d).length ≤ big := by
   rw [hhas] at hb
   simp only [if_true, List.length_append] at hb
   omega
  have hct : Cells W0 pb (po + off) (cs.take ty.size) := hc.take _
  have hpbW := hc
  cases htp : ty.tp with
  | some TP' =>
   have hh : ty.h = 3 := by simp [Ty.h, htp]
   simp only [hh] at ht hrest ⊢
   refine vX (rM ?_)
   refine r_nil (ad := ⟨pb, po, none⟩) (by simp (disch := (try simp only [sP]); omega) only [eV, hp0]) ?_
   refine rF (b := pb) (o := po) (by simp (disch := (try simp only [sP]); omega) only [eV]) hoff ?_
   refine rA (dn ?_)
   generalize hA : (((a0.put (some (t + v.nt)) (a0.eval (.tmp s))).put (some (t + v.nt + 1)) (.pointer (some ⟨pb, po, none⟩))).put (some (t + v.nt + 2)) (.pointer (some ⟨pb, po + off, none⟩))) = A
   have hAe : A.eval (.tmp (t + v.nt + 2)) = .pointer (some ⟨pb, po + off, none⟩) := by rw [← hA]; simp (disch := (try simp only [sP]); omega) only [eV]
   have hA1 : ∀ k, k < t → A.eval (.tmp k) = a0.eval (.tmp k) := by intro k hk; rw [← hA]; simp (disch := (try simp only [sP]); omega) only [eV]
   have hAs : A.tmps.size = a0.tmps.size := by rw [← hA]; simp only [zP]
   have hAf : Fr (KW L n t) a0 A := by
    rw [← hA]
    exact (((Fr.refl _ _).put _ (hs.kt _ (by omega))).put _ (hs.kt _ (by omega))).put _ (hs.kt _ (by omega))
   have hf1 : Fr (KW L n t) a (A.put (some n) (A.eval (.tmp (t + v.nt + 2)))) := (hf0.trans hAf).put _ (by rintro ⟨_, h | h⟩ <;> omega)
   have hst1 := hst.fr hs hf1 (by rw [eval_put_ne _ _ _ _ (by omega), hA1 1 (by omega), he0 1 (by omega)])
   refine hty x ver fx L n (n + 1) (t + v.nt + 3) b B _ w xs (cs.take ty.size) d _ hokt (hs.up (by omega) (by omega) (by omega)) (by omega) (by omega) (by omega) (by rw [hf1.size]; omega) hst1 ?_ hrt hbt ?_
   ·simp only [Ty.Holds, htp]
    exact ⟨pb, po + off, by rw [eval_put_same _ _ _ (by rw [hAs, hsz0]; omega), hAe], hct⟩
   ·intro a2 w2 hf2 hst2
    exact hrest _ a2 w2 hpart (hf1.trans (hf2.mono (KW.mono (by omega) (by omega)))) hst2
  | none =>
   have hh : ty.h = 4 := by simp [Ty.h, htp]
   simp only [hh] at ht hrest ⊢
   cases harr : ty.arr with
   | true =>
    simp only [if_true]
    obtain ⟨_, hagg, hz, hsz16, hcell⟩ := okW_arr (W0 := W0) (sb := sb) hokt harr
    obtain ⟨z, hz, hzl⟩ := zeroAgg_inv hz
    obtain ⟨hl16, h1c⟩ := hcell _ _ _ hrt
    have hw : Cells w pb (po + off) (cs.take ty.size) := by
     have : pb < W0.heap.size := by
      have h0 := hct.get (i := 0) (by omega)
      exact lt_of_cell h0
     exact hct.below hst.below this
    refine vS (m_loadArr (K := KW1 L n t) (z := z) (cs := cs.take ty.size) hp0 hoff (by rw [hl16]; exact hagg) hz (by omega) h1c hw (by rintro (h | h) <;> omega) (fun d hd => by rintro (h | h) <;> omega) (by omega) (by rw [hsz0]; omega) ?_)
    intro a1 w1 q hf1' hq hqs hqc hg
    have hf1 : Fr (KW L n t) a0 a1 := hf1'.mono (fun k hk => hk.2)
    have hbw1 : Below W0.heap.size w w1 := hg.below.mono hst.size
    have hst1 : WSt P E W0 x ver fx a1 w1 xs := by
     have h1' : a1.eval (.tmp 1) = a0.eval (.tmp 1) := hf1'.slot 1 (.inl (by omega))
     exact ⟨hst.below.trans hbw1, by rw [h1']; exact ownsRow_grow hst0.own hg, by rw [hf1.slot _ ⟨hs.vs.2, .inl hs.vs.1⟩]; exact hst0.ver, fun f hh => by rw [hf1.slot _ ⟨(hs.fl f hh).2, .inl (hs.fl f hh).1⟩]; exact hst0.fl f hh⟩
    refine hty x ver fx L n (n + 1) (t + v.nt + 4) b B a1 w1 xs (cs.take ty.size) d _ hokt (hs.up (by omega) (by omega) (by omega)) (by omega) (by omega) (by omega) (by rw [hf1.size, hsz0]; omega) hst1 ?_ hrt hbt ?_
    ·simp only [Ty.Holds, htp, harr, if_true]
     exact ⟨q, hq, hqc⟩
    ·intro a2 w2 hf2 hst2
     exact hrest _ a2 w2 hpart ((hf0.trans hf1).trans (hf2.mono (KW.mono (by omega) (by omega)))) hst2
   | false =>
    simp only [Bool.false_eq_true, if_false]
    obtain ⟨hone, hsz1⟩ := okW_one hokt htp harr
    obtain ⟨u, hu⟩ := hrep _ _ _ hrt htp harr
    have hcu : W0.cell? ⟨pb, po + off, none⟩ = some u := by have := hct 0 u (by rw [hu]; rfl); simpa using this
    have hcw : w.cell? ⟨pb, po + off, none⟩ = some u := by rw [hst.below.cell (p := ⟨pb, po + off, none⟩) (lt_of_cell hcu)]; exact hcu
    refine vS (m_load (K := KW1 L n t) hp0 hoff hone hcw (by rintro (h | h) <;> omega) (fun d hd => by rintro (h | h) <;> omega) (by omega) (by rw [hsz0]; omega) ?_)
    intro a1 hf1' he1
    have hf1 : Fr (KW L n t) a0 a1 := hf1'.mono (fun k hk => hk.2)
    have hst1 : WSt P E W0 x ver fx a1 w xs := by
     have h1' : a1.eval (.tmp 1) = a0.eval (.tmp 1) := hf1'.slot 1 (.inl (by omega))
     exact hst0.fr hs hf1 h1'
    refine hty x ver fx L n (n + 1) (t + v.nt + 4) b B a1 w xs (cs.take ty.size) d _ hokt (hs.up (by omega) (by omega) (by omega)) (by omega) (by omega) (by omega) (by rw [hf1.size, hsz0]; omega) hst1 ?_ hrt hbt ?_
    ·simp only [Ty.Holds, htp, harr, Bool.false_eq_true, if_false]
     rw [hu, he1]
    ·intro a2 w2 hf2 hst2
     exact hrest _ a2 w2 hpart ((hf0.trans hf1).trans (hf2.mono (KW.mono (by omega) (by omega)))) hst2
 ·intro hhas a0 hf0 he0
  refine hrest [] a0 w (by rw [hhas]; simp) hf0 ?_
  rw [List.append_nil]
  exact hst.fr hs hf0 (he0 1 (by omega))
end
end Go.Km
namespace Go.Km
open Go Go.RowKit
attribute [local irreducible] vc rO_ runG
section
variable {P : Program} {E : Env} {W0 : World} {sb : Sb}
theorem wok_struct (TP TU : TypeId) (FD : FuncId) (fs : Flds) (h : fs.WOk P E W0 sb) : (Ty.struct TP TU FD fs).WOk P E W0 sb := by
 intro x ver fx L v n t b B a w xs cs d Q hok hs hv hv1 hn ht hst hh hr hb k
 cases d with
 | obj ds tags =>
  simp only [Ty.Rep] at hr
  simp only [Ty.Holds, Ty.tp] at hh
  obtain ⟨pb, po, hp, hc⟩ := hh
  simp only [Ty.wr] at hb k
  simp only [Ty.wc]
  exact h x ver fx L TP TU v 0 0 n t b B pb po a w xs cs ds tags Q hok hs hv hv1 hn ht hst hp (by simpa using hc) hr hb k
 | _ => exact absurd hr (by simp [Ty.Rep])
theorem w_lit {x : Cx} {ver : Nat} {fx : Bool} {L n t : Nat} {a : Act} {w : World} {xs : List UInt8} {z : UInt8} {c : Int} {Q : Exit → Act → World → Prop} (hB : rowB P E.tB E.tU8 1 = true) (hc : Value.int .u8 c = bv z)
  (hs : WSl x L n t fx) (hsz : t + 3 ≤ a.tmps.size) (hst : WSt P E W0 x ver fx a w xs) (hb : xs.length + 1 ≤ big)
  (k : ∀ a' w', Fr (KW L n t) a a' → WSt P E W0 x ver fx a' w' (xs ++ [z]) → Q .normal a' w') :
  vc P (rg [oMove t (.tmp 1) E.tB, oBuildSlice (t + 1) E.tB 1 #[(0, .const (.int .u8 c))], oBuiltin (t + 2) .append #[.tmp t, .tmp (t + 1)] #[E.tB, E.tB] E.tB, oAssign 1 (.tmp (t + 2)) E.tB]) Q a w := by
 have h1 := hs.one; have h2 := hs.nL; have h3 := hs.Lt
 have hsize := hst.size
 refine vR (by simp) ?_
 refine rM ?_
 refine r_buildSlice (s := 1) (vs := [bv z]) hB (by simp [eval_const, hc]) rfl (by intro v hv; simp only [List.mem_singleton] at hv; subst hv; rfl) (by omega) (by omega) ?_
 refine r_append (sz := 1) (m := 1) (U := W0.heap.size) (v := a.eval (.tmp 1)) (n := xs.length) (xs := xs.map bv) (u := .slice (some ⟨w.heap.size, 0, none⟩) 1 1) (news := [bv z]) hB (by simp (disch := (try simp only [sP]); omega) only [eV]) (by simp (disch := (try simp only [sP]); omega) only [eV]) (hst.own.alloc _) (by simp; omega) ?_ hb ?_
 ·refine src_cells (rB hB) ?_ rfl (bv_one [z])
  intro j u hu
  rw [Nat.zero_add]
  exact cells_new w _ E.tU8 (by simpa [bv, Value.cells] using hu)
 intro v' w' hown hbel
 refine rA (dn ?_)
 have hf : ∀ v1 v2 v3 v4, Fr (KW L n t) a ((((a.put (some t) v1).put (some (t + 1)) v2).put (some (t + 2)) v3).put (some 1) v4) := fun v1 v2 v3 v4 =>
  ((((Fr.refl _ a).put _ (hs.kt t (Nat.le_refl _))).put _ (hs.kt _ (by omega))).put _ (hs.kt _ (by omega))).put _ hs.k1
 refine k _ w' (hf _ _ _ _) (hst.step hs (hf _ _ _ _) (v' := v') (by simp (disch := (try simp only [sP]); omega) only [eV]) ⟨?_, ?_⟩)
 ·rw [List.map_append, List.length_append]
  exact hown
 ·exact ((Below.refl W0.heap.size w).alloc hsize _).trans hbel
theorem r_eqNilPW {d T x ty p af g ad} {e : TypeId} {a : Act} {w : World} {r : List Oper} {Q : Exit → Act → World → Prop} (hT : P.underlying T = some (.pointer e)) (hx : a.eval x = .pointer ad) (h : rO_ P Q r (a.put (some d) (.bool ad.isNone)) w) :
  rO_ P Q (⟨some d, .binOp .eql T x (.const (.pointer none)) T, ty, p, af, g⟩ :: r) a w := by
 refine st ?_
 have hb : (binOp .eql T (.pointer ad) (.pointer none)).run P w = .ok (.bool ad.isNone) w := by
  have h0 : ∀ k : Nat, (Op.equalIn (k + 1) T (.pointer ad) (.pointer none)).run P w = .ok ad.isNone w := fun k => by
   cases ad <;> simp [Op.equalIn, run_underlying hT]
  simp only [binOp]
  simp [Op.equal, Op.maxDepth, h0 9999]
 have hg : (eqGuard .eql T x (.const (.pointer none)) (.pointer ad) (.pointer none)) = pure () := by cases ad <;> rfl
 simp only [Oper.wp, execOp, hx, eval_const, hg, hb, Sem.run_bind, Sem.run_pure, Result.andThen_ok, Oper.upon_value]
 exact h
theorem wok_nstruct (TP TU : TypeId) (FD : FuncId) (fs : Flds) (PP : TypeId) (h : fs.WOk P E W0 sb) : (Ty.nstruct TP TU FD fs PP).WOk P E W0 sb := by
 intro x ver fx L v n t b B a w xs cs d Q hok hs hv hv1 hn ht hst hh hr hb k
 simp only [Ty.okW, Bool.and_eq_true] at hok
 obtain ⟨⟨⟨hB, hT⟩, _⟩, hF⟩ := hok
 obtain ⟨te, hT⟩ := ptrB_inv hT
 have h1 := hs.one; have h2 := hs.nL; have h3 := hs.Lt
 simp only [Ty.wn] at hn
 simp only [Ty.wt] at ht
 have hh' : cs = [a.eval (.tmp v)] := by simpa [Ty.Holds, Ty.tp, Ty.arr] using hh
 subst hh'
 simp only [Ty.wc]
 have hf2 : ∀ u v2, Fr (KW L n t) a ((a.put (some t) u).put (some (t + 1)) v2) := fun u v2 => ((Fr.refl _ a).put _ (hs.kt t (Nat.le_refl _))).put _ (hs.kt _ (by omega))
 cases d with
 | list o =>
  rcases o with _ | l
  ·have hpv : a.eval (.tmp v) = .pointer none := by simpa [Ty.Rep] using hr
   simp only [Ty.wr] at hb k
   refine vS (vX (rM ?_))
   refine r_eqNilPW (ad := none) hT (by simp (disch := (try simp only [sP]); omega) only [eV, hpv]) ?_
   refine dn ?_
   refine vS (vC (t := true) (by simp (disch := (try simp only [sP]); omega) only [eV, Option.isNone]) (fun _ => ?_) (fun h => by cases h))
   refine w_lit (z := 255) (n := n) (L := L) (t := t + 2) hB rfl (hs.up (Nat.le_refl _) hs.nL (by omega)) (by rw [(hf2 _ _).size]; omega) (hst.fr hs (hf2 _ _) (by simp (disch := (try simp only [sP]); omega) only [eV])) (by simpa using hb) ?_
   exact fun a' w' hf hst' => vN (vN (k a' w' ((hf2 _ _).trans (hf.mono (KW.mono (Nat.le_refl _) (by omega)))) hst'))
  ·rcases l with _ | ⟨d0, _ | ⟨d1, r⟩⟩
   ·exact absurd hr (by simp [Ty.Rep])
   ·cases d0 with
    | obj ds tags =>
     simp only [Ty.Rep] at hr
     obtain ⟨q, c, hcv, hBq, hq, hcl, hcc, hrep⟩ := hr
     have hpv : a.eval (.tmp v) = .pointer (some ⟨q, 0, none⟩) := by simpa using hcv
     simp only [Ty.wr, List.length_cons] at hb k
     refine vS (vX (rM ?_))
     refine r_eqNilPW (ad := some ⟨q, 0, none⟩) hT (by simp (disch := (try simp only [sP]); omega) only [eV, hpv]) ?_
     refine dn ?_
     refine vS (vC (t := false) (by simp (disch := (try simp only [sP]); omega) only [eV, Option.isNone]) (fun h => by cases h) (fun _ => ?_))
     refine vS (w_lit (z := 1) (n := n) (L := L) (t := t + 5) hB rfl (hs.up (Nat.le_refl _) hs.nL (by omega)) (by rw [(hf2 _ _).size]; omega) (hst.fr hs (hf2 _ _) (by simp (disch := (try simp only [sP]); omega) only [eV])) (by omega) ?_)
     intro a' w' hf hst'
     have hf' : Fr (KW L n t) a a' := (hf2 _ _).trans (hf.mono (KW.mono (Nat.le_refl _) (by omega)))
     refine h x ver fx L TP TU v 0 0 n (t + 8) b (q + 1) q 0 a' w' (xs ++ [1]) c ds tags _ hF (hs.up (Nat.le_refl _) hs.nL (by omega)) hv hv1 hn (by rw [hf'.size]; omega) hst' (by rw [hf'.slot v ⟨hv1, .inl hv⟩]; exact hpv) hcc hrep (by simp only [List.length_append, List.length_cons, List.length_nil]; omega) ?_
     intro a2 w2 hf3 hst2
     refine vN (vN (k a2 w2 (hf'.trans (hf3.mono (KW.mono (Nat.le_refl _) (by omega)))) ?_))
     rw [List.append_assoc] at hst2
     exact hst2
    | _ => exact absurd hr (by simp [Ty.Rep])
   ·exact absurd hr (by cases d0 <;> simp [Ty.Rep])
 | _ => exact absurd hr (by simp [Ty.Rep])
def listHead (null : Bool) (fx : Bool) (o : Option (List D)) : List UInt8 := if null && o.isNone then wrNull fx else wrLen fx (o.getD []).length
theorem wr_list (fx : Bool) (ver : Nat) (TS : TypeId) (null : Option Nat) (e : Ty) (o : Option (List D)) :
  (Ty.list TS null e).wr fx ver (.list o) = listHead null.isSome fx o ++ ((o.getD []).map fun d => e.wr fx ver d).flatten := by
 cases o with
 | none => cases null <;> simp [Ty.wr, listHead]
 | some l => simp [Ty.wr, listHead]
theorem w_lens (H : EnvW P E sb.T) {x : Cx} {ver : Nat} {fx : Bool} {TS e : TypeId} {sz L v n t len cap : Nat} {ad : Option Addr} {a : Act} {w : World} {xs : List UInt8} {o : Option (List D)} {null : Bool} {Q : Exit → Act → World → Prop}
  (hok : (if null then x.ok E.wCNLen E.wNLen else x.ok E.wCLen E.wLen) = true) (hT : sliceT P TS = some (e, sz))
  (hs : WSl x L n t fx) (hv : v < n) (hv1 : v ≠ 1) (hsz : t + x.nt (if null then 6 else 4) ≤ a.tmps.size) (hst : WSt P E W0 x ver fx a w xs) (ha : a.eval (.tmp v) = .slice ad len cap)
  (hlen : len = (o.getD []).length) (had : ad.isNone = o.isNone) (hbig : len ≤ big) (hb : xs.length + (listHead null fx o).length ≤ big)
  (k : ∀ a' w', Fr (KW L n t) a a' → WSt P E W0 x ver fx a' w' (xs ++ listHead null fx o) → Q .normal a' w') :
  vc P (if null = true then wFlex E x t 6 (wNLens E E.wCNLen TS v) (wNLens E E.wNLen TS v) else wFlex E x t 4 (wLens E E.wCLen TS v) (wLens E E.wLen TS v)) Q a w := by
 have h1 := hs.one; have h2 := hs.nL; have h3 := hs.Lt
 cases null with
 | true =>
  simp only [if_true] at hok hsz ⊢
  obtain ⟨hG, hF⟩ := Cx.ok_inv hok
  have hd : ∀ f, listHead true f o = if ad.isNone = true then wrNull f else wrLen f len := by
   intro f
   rw [had, hlen]
   cases o <;> simp [listHead]
  rw [hd] at hb
  refine m_flex (K := KW L n t) (fx := fx) (fun f hf => ⟨hst.fl f hf, by have := (hs.fl f hf).1; omega⟩) hs.no hs.kt (by omega) hsz ?_ ?_
  ·intro hfx a' t' hf ht' hsz' he
   subst hfx
   have hs' := hs.up (Nat.le_refl n) hs.nL ht'
   have hst' := hst.fr hs hf (he 1 (by omega))
   refine m_nlens (K := KW L n t') rfl (by rw [he v (by omega)]; exact ha) hT (H.cnlen (hF _ hs.no rfl) len ad.isNone _ _ hbig _ xs hst'.own hst'.size hb) hs'.kt hs'.k1 (by omega) (by omega) (by rw [hf.size]; exact hsz') ?_
   intro a2 v2 w2 hf2 e2 hS
   rw [← hd] at hS
   exact k a2 w2 (hf.trans (hf2.mono (KW.mono (Nat.le_refl _) ht'))) (hst'.step hs' hf2 e2 hS)
  ·intro hfx a' t' hf ht' hsz' he
   subst hfx
   have hs' := hs.up (Nat.le_refl n) hs.nL ht'
   have hst' := hst.fr hs hf (he 1 (by omega))
   refine m_nlens (K := KW L n t') rfl (by rw [he v (by omega)]; exact ha) hT (H.nlen hG len ad.isNone _ _ hbig _ xs hst'.own hst'.size hb) hs'.kt hs'.k1 (by omega) (by omega) (by rw [hf.size]; exact hsz') ?_
   intro a2 v2 w2 hf2 e2 hS
   rw [← hd] at hS
   exact k a2 w2 (hf.trans (hf2.mono (KW.mono (Nat.le_refl _) ht'))) (hst'.step hs' hf2 e2 hS)
 | false =>
  simp only [Bool.false_eq_true, if_false] at hok hsz ⊢
  obtain ⟨hG, hF⟩ := Cx.ok_inv hok
  have hd : ∀ f, listHead false f o = wrLen f len := by
   intro f
   rw [hlen]
   simp [listHead]
  rw [hd] at hb
  refine m_flex (K := KW L n t) (fx := fx) (fun f hf => ⟨hst.fl f hf, by have := (hs.fl f hf).1; omega⟩) hs.no hs.kt (by omega) hsz ?_ ?_
  ·intro hfx a' t' hf ht' hsz' he
   subst hfx
   have hs' := hs.up (Nat.le_refl n) hs.nL ht'
   have hst' := hst.fr hs hf (he 1 (by omega))
   refine m_lens (K := KW L n t') rfl (by rw [he v (by omega)]; exact ha) hT (H.clen (hF _ hs.no rfl) len _ _ hbig _ xs hst'.own hst'.size hb) hs'.kt hs'.k1 (by omega) (by omega) (by rw [hf.size]; exact hsz') ?_
   intro a2 v2 w2 hf2 e2 hS
   rw [← hd] at hS
   exact k a2 w2 (hf.trans (hf2.mono (KW.mono (Nat.le_refl _) ht'))) (hst'.step hs' hf2 e2 hS)
  ·intro hfx a' t' hf ht' hsz' he
   subst hfx
   have hs' := hs.up (Nat.le_refl n) hs.nL ht'
   have hst' := hst.fr hs hf (he 1 (by omega))
   refine m_lens (K := KW L n t') rfl (by rw [he v (by omega)]; exact ha) hT (H.len hG len _ _ hbig _ xs hst'.own hst'.size hb) hs'.kt hs'.k1 (by omega) (by omega) (by rw [hf.size]; exact hsz') ?_
   intro a2 v2 w2 hf2 e2 hS
   rw [← hd] at hS
   exact k a2 w2 (hf.trans (hf2.mono (KW.mono (Nat.le_refl _) ht'))) (hst'.step hs' hf2 e2 hS)
theorem flatten_take {α : Type} (l : List D) (f : D → List α) (i : Nat) (h : i < l.length) : ((l.take (i + 1)).map f).flatten = ((l.take i).map f).flatten ++ f l[i] := by
 rw [List.take_succ_eq_append_getElem h, List.map_append, List.flatten_append]
 simp
theorem flatten_take_le {α : Type} (l : List D) (f : D → List α) (i : Nat) : ((l.take i).map f).flatten.length ≤ ((l.map f).flatten).length := by
 have : l = l.take i ++ l.drop i := (List.take_append_drop i l).symm
 conv => rhs; rw [this]
 rw [List.map_append, List.flatten_append, List.length_append]
 omega
set_option maxHeartbeats 1000000 in
theorem wok_list (H : EnvW P E sb.T) (TS : TypeId) (null : Option Nat) (e : Ty) (he : e.WOk P E W0 sb) (hrep : ∀ cs B d, e.Rep W0 sb B cs d → e.tp = none → e.arr = false → ∃ u, cs = [u]) : (Ty.list TS null e).WOk P E W0 sb := by
 intro x ver fx L v n t b B a w xs cs d Q hok hs hv hv1 hn ht hst hh hr hb k
 have h1 := hs.one; have h2 := hs.nL; have h3 := hs.Lt
 simp only [Ty.okW, Bool.and_eq_true, Bool.not_eq_true'] at hok
 obtain ⟨⟨⟨⟨hfn, hTS⟩, hslice⟩, hearr⟩, hoke⟩ := hok
 obtain ⟨te, hT⟩ := sliceB_inv hslice
 have hh' : cs = [a.eval (.tmp v)] := by simpa [Ty.Holds, Ty.tp, Ty.arr] using hh
 subst hh'
 simp only [Ty.wn] at hn
 simp only [Ty.wt] at ht
 cases d with
 | list o =>
  rw [wr_list] at hb k
  -- what the slot holds
  obtain ⟨ad, cap, ha, had, hbig, hel⟩ : ∃ ad cap, a.eval (.tmp v) = .slice ad (o.getD []).length cap ∧ ad.isNone = o.isNone ∧ (o.getD []).length ≤ big ∧
    ∀ (i : Nat) (h : i < (o.getD []).length), ∃ q, ad = some ⟨q, 0, none⟩ ∧ q < W0.heap.size ∧ ∃ c : List Value, c.length = e.size ∧ Cells W0 q (i * e.size) c ∧ e.Rep W0 sb (q + 1) c (o.getD [])[i] := by
   cases o with
   | none =>
    simp only [Ty.Rep, List.cons.injEq, and_true] at hr
    exact ⟨none, 0, hr, rfl, Nat.zero_le _, fun i h => by simp at h⟩
   | some l =>
    simp only [Ty.Rep] at hr
    obtain ⟨q, cap, hv', hB, hq, hbg, hall⟩ := hr
    simp only [List.cons.injEq, and_true] at hv'
    refine ⟨some ⟨q, 0, none⟩, cap, hv', rfl, hbg, fun i h => ⟨q, rfl, hq, ?_⟩⟩
    exact hall i _ (List.getElem?_eq_getElem h)
  generalize hl : o.getD [] = l at *
  have hh0 : (listHead null.isSome fx o).length ≤ (listHead null.isSome fx o ++ (l.map fun d => e.wr fx ver d).flatten).length := by simp
  simp only [Ty.wc]
  generalize ht1 : t + x.nt (if null.isSome = true then 6 else 4) = t1 at *
  have htt1 : t ≤ t1 := by omega
  refine vS (w_lens H hfn hT hs hv hv1 (by rw [ht1]; omega) hst ha (by rw [hl]) had hbig (by omega) ?_)
  intro a1 w1 hf1 hst1
  have hav1 : a1.eval (.tmp v) = .slice ad l.length cap := by rw [hf1.slot v ⟨hv1, .inl hv⟩]; exact ha
  have hs1 : WSl x L n t1 fx := hs.up (Nat.le_refl _) hs.nL htt1
  -- the state at the head of round i
  let I : Nat → Act → World → Prop := fun i a' w' => Fr (KW L n t) a a' ∧ WSt P E W0 x ver fx a' w' (xs ++ listHead null.isSome fx o ++ ((l.take i).map fun d => e.wr fx ver d).flatten)
  have stab : ∀ i a' a2 w', I i a' w' → a2.tmps.size = a'.tmps.size → a2.defers = a'.defers → (∀ k, k < t1 → a2.eval (.tmp k) = a'.eval (.tmp k)) → I i a2 w' := by
   rintro i a' a2 w' ⟨hfr, hw⟩ hsz hdf hsl
   refine ⟨⟨hsz.trans hfr.size, hdf.trans hfr.defers, fun k hk => ?_⟩, ⟨hw.below, by rw [hsl 1 (by omega)]; exact hw.own, by rw [hsl x.vs (by have := hs.vs.1; omega)]; exact hw.ver, fun f hf => by rw [hsl f (by have := (hs.fl f hf).1; omega)]; exact hw.fl f hf⟩⟩
   rw [hsl k (by have := hk.2; omega)]
   exact hfr.slot k hk
  have hI0 : I 0 a1 w1 := ⟨hf1, by simpa using hst1⟩
  have hdone : ∀ a' w', I l.length a' w' → vc P (sq []) Q a' w' := by
   rintro a' w' ⟨hfr, hw⟩
   refine vN (k a' w' hfr ?_)
   rw [List.take_length] at hw
   simpa [List.append_assoc] using hw
  have hsize1 : a1.tmps.size = a.tmps.size := hf1.size
  refine vS ?_
  cases htp : e.tp with
  | some TP' =>
   have hh : e.h = 3 := by simp [Ty.h, htp]
   rw [hh] at ht
   refine m_wloop hav1 hT (by unfold big at hbig; omega) (by omega) (by omega) (by omega) I stab hI0 ?_ hdone
   intro i a2 w2 hi ⟨hfr2, hw2⟩ hcnt hsz2
   obtain ⟨q, rfl, hq, c, hcl, hcc, hrc⟩ := hel i hi
   have hav2 : a2.eval (.tmp v) = .slice (some ⟨q, 0, none⟩) l.length cap := by rw [hfr2.slot v ⟨hv1, .inl hv⟩]; exact ha
   refine vX (rM (rA (dn (vX (rM (rM ?_))))))
   refine r_index (j := i) (k := .i64) (b := q) (o := 0) (len := l.length) (cap := cap) hT (by simp (disch := (try simp only [sP]); omega) only [eV, hav2]) (by simp (disch := (try simp only [sP]); omega) only [eV, hcnt]) hi ?_
   refine rA (dn ?_)
   generalize hA : ((((((a2.put (some (t1 + 4)) (a2.eval (.tmp (t1 + 2)))).put (some n) ((a2.put (some (t1 + 4)) (a2.eval (.tmp (t1 + 2)))).eval (.tmp (t1 + 4))))).put (some (t1 + 5)) _).put (some (t1 + 6)) _).put (some (t1 + 7)) (.pointer (some ⟨q, 0 + i * e.size, none⟩))) = A
   have hA7 : A.eval (.tmp (t1 + 7)) = .pointer (some ⟨q, 0 + i * e.size, none⟩) := by rw [← hA]; simp (disch := (try simp only [sP]); omega) only [eV]
   have hAk : ∀ k, k ≠ n → k < t1 + 4 → A.eval (.tmp k) = a2.eval (.tmp k) := by intro k hk hkt; rw [← hA]; simp (disch := (try simp only [sP]); omega) only [eV]
   have hAs : A.tmps.size = a2.tmps.size := by rw [← hA]; simp only [zP]
   have hAd : A.defers = a2.defers := by rw [← hA]; simp only [dF]
   have hB1 : ∀ k, k ≠ n → k ≠ n + 1 → k < t1 + 4 → (A.put (some (n + 1)) (A.eval (.tmp (t1 + 7)))).eval (.tmp k) = a2.eval (.tmp k) := by
    intro k h h' h''
    rw [eval_put_ne _ _ _ _ (by omega)]
    exact hAk k h h''
   have hBf : Fr (KW L n t) a2 (A.put (some (n + 1)) (A.eval (.tmp (t1 + 7)))) := ⟨by rw [zP, hAs], by rw [dF, hAd], fun k hk => hB1 k (by have := hk.2; omega) (by have := hk.2; omega) (by have := hk.2; omega)⟩
   have hstB := hw2.fr hs hBf (hB1 1 (by omega) (by omega) (by omega))
   refine he x ver fx L (n + 1) (n + 2) (t1 + 8) (b + 2) (q + 1) _ w2 _ c l[i] _ hoke (hs.up (by omega) (by omega) (by omega)) (by omega) (by omega) (by omega) (by rw [hBf.size]; omega) hstB ?_ hrc ?_ ?_
   ·simp only [Ty.Holds, htp]
    refine ⟨q, 0 + i * e.size, ?_, by rw [Nat.zero_add]; exact hcc⟩
    rw [eval_put_same _ _ _ (by rw [hAs]; omega), hA7]
   ·have := flatten_take_le l (fun d => e.wr fx ver d) (i + 1)
    rw [flatten_take _ _ _ hi] at this
    simp only [List.length_append] at this hb ⊢
    omega
   ·intro a3 w3 hf3 hst3
    refine ⟨⟨(hfr2.trans hBf).trans (hf3.mono (KW.mono (by omega) (by omega))), ?_⟩, ?_, ?_, ?_⟩
    ·rw [flatten_take _ _ _ hi]
     simpa [List.append_assoc] using hst3
    ·rw [hf3.slot (t1 + 2) ⟨by omega, .inr ⟨by omega, by omega⟩⟩]; exact hB1 _ (by omega) (by omega) (by omega)
    ·rw [hf3.slot (t1 + 1) ⟨by omega, .inr ⟨by omega, by omega⟩⟩]; exact hB1 _ (by omega) (by omega) (by omega)
    ·rw [hf3.size, hBf.size]
  | none =>
   have hh : e.h = 4 := by simp [Ty.h, htp]
   rw [hh] at ht
   obtain ⟨hone, hsz1⟩ := okW_one hoke htp hearr
   refine m_wloop hav1 hT (by unfold big at hbig; omega) (by omega) (by omega) (by omega) I stab hI0 ?_ hdone
   intro i a2 w2 hi ⟨hfr2, hw2⟩ hcnt hsz2
   obtain ⟨q, rfl, hq, c, hcl, hcc, hrc⟩ := hel i hi
   have hav2 : a2.eval (.tmp v) = .slice (some ⟨q, 0, none⟩) l.length cap := by rw [hfr2.slot v ⟨hv1, .inl hv⟩]; exact ha
   obtain ⟨u, rfl⟩ := hrep _ _ _ hrc htp hearr
   have hcu : w2.cell? ⟨q, 0 + i * e.size, none⟩ = some u := by
    have := hcc 0 u rfl
    rw [Nat.add_zero] at this
    rw [Nat.zero_add, hw2.below.cell (p := ⟨q, i * e.size, none⟩) hq]
    exact this
   refine vX (rM (rA (dn (vX (rM (rM ?_))))))
   refine r_index (j := i) (k := .i64) (b := q) (o := 0) (len := l.length) (cap := cap) hT (by simp (disch := (try simp only [sP]); omega) only [eV, hav2]) (by simp (disch := (try simp only [sP]); omega) only [eV, hcnt]) hi ?_
   refine rL (b := q) (o := 0 + i * e.size) (by simp (disch := (try simp only [sP]); omega) only [eV]) hone hcu ?_
   refine rA (dn ?_)
   generalize hA : (((((((a2.put (some (t1 + 4)) (a2.eval (.tmp (t1 + 2)))).put (some n) ((a2.put (some (t1 + 4)) (a2.eval (.tmp (t1 + 2)))).eval (.tmp (t1 + 4))))).put (some (t1 + 5)) _).put (some (t1 + 6)) _).put (some (t1 + 7)) (.pointer (some ⟨q, 0 + i * e.size, none⟩))).put (some (t1 + 8)) u) = A
   have hA7 : A.eval (.tmp (t1 + 8)) = u := by rw [← hA]; simp (disch := (try simp only [sP]); omega) only [eV]
   have hAk : ∀ k, k ≠ n → k < t1 + 4 → A.eval (.tmp k) = a2.eval (.tmp k) := by intro k hk hkt; rw [← hA]; simp (disch := (try simp only [sP]); omega) only [eV]
   have hAs : A.tmps.size = a2.tmps.size := by rw [← hA]; simp only [zP]
   have hAd : A.defers = a2.defers := by rw [← hA]; simp only [dF]
   have hB1 : ∀ k, k ≠ n → k ≠ n + 1 → k < t1 + 4 → (A.put (some (n + 1)) (A.eval (.tmp (t1 + 8)))).eval (.tmp k) = a2.eval (.tmp k) := by
    intro k h h' h''
    rw [eval_put_ne _ _ _ _ (by omega)]
    exact hAk k h h''
   have hBf : Fr (KW L n t) a2 (A.put (some (n + 1)) (A.eval (.tmp (t1 + 8)))) := ⟨by rw [zP, hAs], by rw [dF, hAd], fun k hk => hB1 k (by have := hk.2; omega) (by have := hk.2; omega) (by have := hk.2; omega)⟩
   have hstB := hw2.fr hs hBf (hB1 1 (by omega) (by omega) (by omega))
   refine he x ver fx L (n + 1) (n + 2) (t1 + 9) (b + 2) (q + 1) _ w2 _ [u] l[i] _ hoke (hs.up (by omega) (by omega) (by omega)) (by omega) (by omega) (by omega) (by rw [hBf.size]; omega) hstB ?_ hrc ?_ ?_
   ·simp only [Ty.Holds, htp, hearr, Bool.false_eq_true, if_false]
    rw [eval_put_same _ _ _ (by rw [hAs]; omega), hA7]
   ·have := flatten_take_le l (fun d => e.wr fx ver d) (i + 1)
    rw [flatten_take _ _ _ hi] at this
    simp only [List.length_append] at this hb ⊢
    omega
   ·intro a3 w3 hf3 hst3
    refine ⟨⟨(hfr2.trans hBf).trans (hf3.mono (KW.mono (by omega) (by omega))), ?_⟩, ?_, ?_, ?_⟩
    ·rw [flatten_take _ _ _ hi]
     simpa [List.append_assoc] using hst3
    ·rw [hf3.slot (t1 + 2) ⟨by omega, .inr ⟨by omega, by omega⟩⟩]; exact hB1 _ (by omega) (by omega) (by omega)
    ·rw [hf3.slot (t1 + 1) ⟨by omega, .inr ⟨by omega, by omega⟩⟩]; exact hB1 _ (by omega) (by omega) (by omega)
    ·rw [hf3.size, hBf.size]
 | _ => exact absurd hr (by simp [Ty.Rep])
end
end Go.Km
namespace Go.Km
open Go Go.RowKit
attribute [local irreducible] vc rO_ runG
theorem rep_one {w : World} {sb : Sb} (ty : Ty) : ∀ cs B d, ty.Rep w sb B cs d → ty.tp = none → ty.arr = false → ∃ u, cs = [u] := by
 intro cs B d h ht ha
 cases ty <;> first | (cases d <;> simp_all [Ty.Rep, Ty.tp, Ty.arr]; done) | skip
 all_goals
  cases d with
  | bytes o => cases o <;> simp only [Ty.Rep, Ty.tp, Ty.arr, reduceCtorEq] at h ht ha <;> first | exact ⟨_, h⟩ | exact ⟨_, h.1⟩ | (obtain ⟨_, h, _⟩ := h; exact ⟨_, h⟩) | (obtain ⟨_, _, h, _⟩ := h; exact ⟨_, h⟩) | (obtain ⟨_, _, _, h, _⟩ := h; exact ⟨_, h⟩)
  | list o =>
   rcases o with _ | ⟨_ | ⟨d0, _ | ⟨d1, r⟩⟩⟩ <;> (try cases d0) <;> simp only [Ty.Rep, Ty.tp, Ty.arr, reduceCtorEq] at h ht ha <;> first | exact ⟨_, h⟩ | (obtain ⟨_, _, h, _⟩ := h; exact ⟨_, h⟩) | (obtain ⟨_, h, _⟩ := h; exact ⟨_, h⟩)
  | int m => simp [Ty.Rep, Ty.tp, Ty.arr] at h ht ha
  | obj l t => simp [Ty.Rep, Ty.tp, Ty.arr] at h ht ha
section
variable {P : Program} {E : Env} {W0 : World} {sb : Sb}
mutual
theorem wok_ty (H : EnvW P E sb.T) (HI : EnvI P E) : ∀ (ty : Ty), ty.WOk P E W0 sb
 | .scal s df => wok_scal H s df
 | .named s T df => wok_named H s T df
 | .uuid => wok_uuid H
 | .text => wok_text H
 | .ntext => wok_ntext H
 | .ntextFrom N => wok_ntextFrom H N
 | .bytes => wok_bytes H
 | .nbytes => wok_nbytes H
 | .list TS null e => wok_list H TS null e (wok_ty H HI e) (rep_one e)
 | .struct TP TU FD fs => wok_struct TP TU FD fs (wok_flds H HI fs)
 | .nstruct TP TU FD fs PP => wok_nstruct TP TU FD fs PP (wok_flds H HI fs)
theorem wok_flds (H : EnvW P E sb.T) (HI : EnvI P E) : ∀ (fs : Flds), fs.WOk P E W0 sb
 | .nil tg => wok_nil H HI tg
 | .cons v ty r => wok_cons v ty r (wok_ty H HI ty) (wok_flds H HI r) (rep_one ty)
end
def Msg.wtop (m : Msg) : Nat := m.wlocals + (match m.flex with | none => 5 | some _ => 8) + m.wfs.wt m.wx + 1
def Msg.isFlex (m : Msg) (ver : Nat) : Bool := match m.flex with | none => false | some f => decide (f ≤ ver)
def Msg.okW (P : Program) (E : Env) (m : Msg) : Bool :=
 oneT P E.tI16 && fieldOff P m.TU 0 == some 0 && m.wfs.okW P E m.wx m.TU m.wi m.wi
theorem rO {P : Program} {w : World} {a : Act} {t : Nat} {v : Value} (h : a.eval (.tmp t) = v) : (results { (default : Func) with results := #[.tmp t] } a.tmps).run P w = .ok v w := by
 subst h
 simp [results, Act.eval]
theorem CallsV.enter {P : Program} {f : FuncId} {np nt : Nat} {res : Array ResultVar} {c : Code} (ht : Text P f np nt res c) {args : Array Value} {w : World} {S : Value → World → Prop} (hn : args.size ≤ nt)
  (h : ∀ a, a.tmps.size = nt → a.defers = [] → (∀ i v, args[i]? = some v → a.eval (.tmp i) = v) → vc P c (Out P res S) a w) : CallsV P f args w S := by
 refine CallsV.of_vc ht (h _ (by simp; omega) rfl ?_)
 intro i v hv
 have hi : i < args.size := by
  rcases Nat.lt_or_ge i args.size with h | h
  ·exact h
  ·simp [Array.getElem?_eq_none h] at hv
 simp [Act.eval, Array.getElem?_append_left hi, hv]
theorem appendTo (H : EnvW P E sb.T) (HI : EnvI P E) {m : Msg} {f : FuncId} {np ntmps : Nat} (ht : Text P f np ntmps #[.tmp 4] (m.wcode E)) (hn : m.wtop ≤ ntmps) (hok : m.okW P E = true)
  {pb po ver : Nat} {cs : List Value} {ds : List D} {tags : List (Nat × List UInt8)} {B : Nat}
  (hver : W0.cell? ⟨pb, po, none⟩ = some (.int .i16 (ver : Int))) (hc : Cells W0 pb (po + m.wi) cs) (hr : m.wfs.Rep W0 sb B cs ds tags) (hb : (m.wfs.wr (m.isFlex ver) ver ds tags).length ≤ big) :
  CallsV P f #[.pointer (some ⟨pb, po, none⟩), .slice none 0 0] W0 fun v w => w.ownsRow W0.heap.size E.tU8 1 v (m.wfs.wr (m.isFlex ver) ver ds tags).length ((m.wfs.wr (m.isFlex ver) ver ds tags).map bv) ∧ Below W0.heap.size W0 w := by
 simp only [Msg.okW, Bool.and_eq_true, beq_iff_eq] at hok
 obtain ⟨⟨ho16, hof⟩, hokf⟩ := hok
 have hlw : 6 ≤ m.wlocals := by unfold Msg.wlocals; cases m.flex <;> simp <;> omega
 have hnt : m.wlocals + 6 ≤ ntmps := by unfold Msg.wtop at hn; cases hfl : m.flex <;> rw [hfl] at hn <;> simp only at hn <;> omega
 refine CallsV.enter ht (by simp; omega) ?_
 intro a0 hs0 hd0 hargs
 have e0 : a0.eval (.tmp 0) = .pointer (some ⟨pb, po, none⟩) := hargs 0 _ rfl
 have e1 : a0.eval (.tmp 1) = .slice none 0 0 := hargs 1 _ rfl
 unfold Msg.wcode
 have htop : m.wlocals + (match m.flex with | none => 5 | some _ => 8) + m.wfs.wt m.wx + 1 ≤ ntmps := hn
 have hloc : m.wlocals = (match m.flex with | none => 6 | some _ => 7) + m.wfs.wn := rfl
 generalize hL : m.wlocals = L at *
 simp only [List.cons_append, List.nil_append, List.append_assoc]
 refine vX (rA (dn (vS ?_)))
 refine m_load (K := fun k => k < L ∧ k ≠ 5) (b := pb) (o := po) (off := 0) (val := .int .i16 (ver : Int)) (by simp (disch := (try simp only [sP]); omega) only [eV, e0]) hof ho16 hver (by simp) (fun d hd => by omega) (by omega) (by simp only [zP]; omega) ?_
 intro a1 hf1 he5
 have hs1 : a1.tmps.size = ntmps := by rw [hf1.size, zP, hs0]
 have hd1 : a1.defers = [] := by rw [hf1.defers, dF, hd0]
 have e10 : a1.eval (.tmp 0) = .pointer (some ⟨pb, po, none⟩) := by rw [hf1.slot 0 (by omega), eval_put_ne _ _ _ _ (by omega), e0]
 have e11 : a1.eval (.tmp 1) = .slice none 0 0 := by rw [hf1.slot 1 (by omega), eval_put_ne _ _ _ _ (by omega), e1]
 refine vX (rM (dn ?_))
 have hown : W0.ownsRow W0.heap.size E.tU8 1 (.slice none 0 0) 0 [] := World.ownsRow_nil _ _ _ _
 have hbel : Below W0.heap.size W0 W0 := Grow.below (Eff.refl _ _)
 have hend : ∀ (t1 : Nat) (a2 : Act) (w2 : World), L ≤ t1 → t1 < ntmps → a2.tmps.size = ntmps → a2.defers = [] → WSt P E W0 m.wx ver (m.isFlex ver) a2 w2 ([] ++ m.wfs.wr (m.isFlex ver) ver ds tags) →
   vc P (sq [rg [oMove t1 (.tmp 1) E.tB, oAssign 4 (.tmp t1) E.tB], .ret]) (Out P #[.tmp 4] fun v w => w.ownsRow W0.heap.size E.tU8 1 v (m.wfs.wr (m.isFlex ver) ver ds tags).length ((m.wfs.wr (m.isFlex ver) ver ds tags).map bv) ∧ Below W0.heap.size W0 w) a2 w2 := by
  intro t1 a2 w2 hLt htn hs2 hd2 hst
  refine vX (rM (rA (dn (vS (vT ?_)))))
  refine ⟨by simp only [dF]; exact hd2, a2.eval (.tmp 1), rO (by simp (disch := (try simp only [sP]); omega) only [eV]), ?_, hst.below⟩
  simpa using hst.own
 cases hfl : m.flex with
 | none =>
  simp only [hfl] at htop hloc ⊢
  have hfx : m.isFlex ver = false := by simp [Msg.isFlex, hfl]
  have hx : m.wx = ⟨5, none⟩ := by simp [Msg.wx, hfl]
  refine vc_sq_append ?_
  generalize hA : a1.put (some (L + 4)) (a1.eval (.tmp 5)) = A
  have hAe : ∀ k, k < L → A.eval (.tmp k) = a1.eval (.tmp k) := fun k hk => by rw [← hA, eval_put_ne _ _ _ _ (by omega)]
  have hAs : A.tmps.size = ntmps := by rw [← hA, zP, hs1]
  have hAd : A.defers = a1.defers := by rw [← hA, dF]
  refine wok_flds (W0 := W0) (sb := sb) H HI m.wfs m.wx ver (m.isFlex ver) L m.TP m.TU 0 m.wi m.wi 6 (L + 5) 0 B pb po A W0 [] cs ds tags _ hokf ⟨by omega, by rw [hx]; exact ⟨by decide, by decide⟩, by rw [hx]; simp, fun _ => hfx, by omega, by omega⟩ (by omega) (by omega) (by omega) (by omega) ?_ (by rw [hAe 0 (by omega), e10]) hc hr (by simpa using hb) ?_
  ·exact ⟨hbel, by rw [hAe 1 (by omega), e11]; exact hown, by rw [hx]; exact (hAe 5 (by omega)).trans he5, by rw [hx]; simp⟩
  ·intro a2 w2 hf2 hst
   exact hend _ a2 w2 (by omega) (by omega) (by rw [hf2.size, hAs]) (by rw [hf2.defers, hAd, hd1]) hst
 | some f =>
  simp only [hfl] at htop hloc ⊢
  have hfx : m.isFlex ver = decide ((ver : Int) ≥ (f : Int)) := by simp [Msg.isFlex, hfl]
  have hx : m.wx = ⟨5, some 6⟩ := by simp [Msg.wx, hfl]
  simp only [List.cons_append, List.nil_append, List.append_assoc]
  refine vX (rM ?_)
  refine r_geq (k := .i16) (m := (ver : Int)) (n := (f : Int)) (by simp (disch := (try simp only [sP]); omega) only [eV, he5]) rfl ?_
  refine rA (dn ?_)
  generalize hB : (((a1.put (some (L + 4)) (a1.eval (.tmp 5))).put (some (L + 5)) _).put (some (L + 6)) (Value.bool (decide ((ver : Int) ≥ (f : Int))))).put (some 6) _ = Bf
  have hBe : ∀ k, k < L → k ≠ 6 → Bf.eval (.tmp k) = a1.eval (.tmp k) := fun k hk hk' => by rw [← hB]; simp (disch := (try simp only [sP]); omega) only [eV]
  have hB6 : Bf.eval (.tmp 6) = .bool (m.isFlex ver) := by rw [← hB, hfx]; simp (disch := (try simp only [sP]); omega) only [eV]
  have hBs : Bf.tmps.size = ntmps := by rw [← hB]; simp only [zP]; exact hs1
  have hBd : Bf.defers = a1.defers := by rw [← hB]; simp only [dF]
  clear hB
  refine vX (rM (dn ?_))
  refine vc_sq_append ?_
  generalize hA : Bf.put (some (L + 7)) (Bf.eval (.tmp 6)) = A
  have hAe : ∀ k, k < L → A.eval (.tmp k) = Bf.eval (.tmp k) := fun k hk => by rw [← hA, eval_put_ne _ _ _ _ (by omega)]
  have hAs : A.tmps.size = ntmps := by rw [← hA, zP, hBs]
  have hAd : A.defers = a1.defers := by rw [← hA, dF, hBd]
  refine wok_flds (W0 := W0) (sb := sb) H HI m.wfs m.wx ver (m.isFlex ver) L m.TP m.TU 0 m.wi m.wi 7 (L + 8) 0 B pb po A W0 [] cs ds tags _ hokf ⟨by omega, by rw [hx]; exact ⟨by decide, by decide⟩, by rw [hx]; simp, by rw [hx]; simp, by omega, by omega⟩ (by omega) (by omega) (by omega) (by omega) ?_ (by rw [hAe 0 (by omega), hBe 0 (by omega) (by omega), e10]) hc hr (by simpa using hb) ?_
  ·exact ⟨hbel, by rw [hAe 1 (by omega), hBe 1 (by omega) (by omega), e11]; exact hown, by rw [hx]; exact (hAe 5 (by omega)).trans ((hBe 5 (by omega) (by omega)).trans he5), by rw [hx]; intro f' hf'; simp only [Option.some.injEq] at hf'; subst hf'; exact (hAe 6 (by omega)).trans hB6⟩
  ·intro a2 w2 hf2 hst
   exact hend _ a2 w2 (by omega) (by omega) (by rw [hf2.size, hAs]) (by rw [hf2.defers, hAd, hd1]) hst
end
end Go.Km
namespace Go.Km
open Go Go.RowKit
attribute [local irreducible] vc rO_ runG runS runD
def o8 (z : Int) : UInt8 := UInt8.ofNat z.toNat
theorem bv_o8 {z : Int} (h0 : 0 ≤ z) (h1 : z < 256) : bv (o8 z) = .int .u8 z := by
 unfold bv o8
 have : z.toNat < 256 := by omega
 rw [UInt8.toNat_ofNat']
 congr 1
 omega
theorem map_o8 {zs : List Int} (h : ∀ z ∈ zs, 0 ≤ z ∧ z < 256) : (zs.map o8).map bv = zs.map fun z => .int .u8 z := by
 rw [List.map_map]
 apply List.map_congr_left
 intro z hz
 exact bv_o8 (h z hz).1 (h z hz).2
theorem wrap8 (n : Int) : IntKind.u8.wrap n = n % 256 := IntKind.wrap_u8' n
theorem wrap8_ok (n : Int) : 0 ≤ IntKind.u8.wrap n ∧ IntKind.u8.wrap n < 256 := by rw [wrap8]; omega
theorem flat_u8 : ∀ zs : List Int, ((zs.map fun z => Value.int .u8 z).flatMap fun v => v.cells.toList) = zs.map fun z => Value.int .u8 z
 | [] => rfl
 | z :: r => by simp only [List.map_cons, List.flatMap_cons, flat_u8 r]; rfl
section
variable {P : Program} {a : Act} {w : World} {r : List Oper} {Q : Exit → Act → World → Prop}
theorem r_litApp {d d2 s : Nat} {t n ps ty p af g ty2 p2 af2 g2 e U v} {xs : List UInt8} {zs : List Int} (hB : rowB P t e 1 = true) (hp : (ps.map fun (x : Nat × Operand) => (x.1, a.eval x.2)).toList = ((zs.map fun z => Value.int .u8 z).zipIdx 0).map fun x => (x.2, x.1)) (h8 : ∀ z ∈ zs, 0 ≤ z ∧ z < 256) (hn : zs.length = n)
  (hlim : n ≤ 1000) (hn0 : 0 < n) (hs : a.eval (.tmp s) = v) (hsd : d ≠ s) (hd : d < a.tmps.size) (hown : w.ownsRow U e 1 v xs.length (xs.map bv)) (hU : U ≤ w.heap.size) (hb : xs.length + n ≤ big)
  (h : ∀ v' w', w'.ownsRow U e 1 v' (xs ++ zs.map o8).length ((xs ++ zs.map o8).map bv) → Below U w w' → rO_ P Q r ((a.put (some d) (.slice (some ⟨w.heap.size, 0, none⟩) n n)).put (some d2) v') w') :
  rO_ P Q (⟨some d, .buildSlice t n ps, ty, p, af, g⟩ :: ⟨some d2, .call { callee := .builtin .append, args := #[.tmp s, .tmp d], argTypes := #[t, t] }, ty2, p2, af2, g2⟩ :: r) a w := by
 refine r_buildSlice (s := 1) (vs := zs.map fun z => .int .u8 z) hB hp (by simpa using hn) (by intro v hv; obtain ⟨z, _, rfl⟩ := List.mem_map.1 hv; rfl) (by omega) hn0 ?_
 have hcs : ((zs.map fun z => Value.int .u8 z).flatMap fun v => v.cells.toList) = (zs.map o8).map bv := by
  rw [map_o8 h8, flat_u8]
 rw [hcs]
 have hlen : (zs.map o8).length = n := by simpa using hn
 refine r_append (sz := 1) (m := n) (U := U) (v := v) (n := xs.length) (xs := xs.map bv) (news := (zs.map o8).map bv) hB (by rw [eval_put_ne _ _ _ _ hsd]; exact hs) (eval_put_same _ _ _ hd) (hown.alloc _) (by simp; omega) ?_ hb ?_
 ·refine src_cells (rB hB) ?_ (by simp [hn]) (bv_one _)
  intro j u hu
  rw [Nat.zero_add]
  exact cells_new w _ e (by simpa using hu)
 ·intro v' w' h1 h2
  refine h v' w' (by simpa [hn] using h1) ?_
  exact ((Below.refl U w).alloc (o := .cells _ e) hU).trans h2
end
theorem wrap_i16 (n : Int) : IntKind.i16.wrap n = (n + 32768) % 65536 - 32768 := by
 simp [IntKind.wrap, IntKind.bits, IntKind.signed]
 split <;> omega
theorem wrap_i32 (n : Int) : IntKind.i32.wrap n = (n + 2147483648) % 4294967296 - 2147483648 := by
 simp [IntKind.wrap, IntKind.bits, IntKind.signed]
 split <;> omega
theorem wrap_u16 (n : Int) : IntKind.u16.wrap n = n % 65536 := by simp [IntKind.wrap, IntKind.bits, IntKind.signed]
theorem wrap_u32 (n : Int) : IntKind.u32.wrap n = n % 4294967296 := by simp [IntKind.wrap, IntKind.bits, IntKind.signed]
theorem wrap_u64 (n : Int) : IntKind.u64.wrap n = n % 18446744073709551616 := by simp [IntKind.wrap, IntKind.bits, IntKind.signed]
theorem be1 (n : Int) : be 1 n = [o8 (n % 256)] := by simp [be, o8]
theorem be2 (n : Int) : be 2 n = [o8 (n / 256 % 256), o8 (n % 256)] := by simp [be, o8, Int.fdiv_eq_ediv_of_nonneg]
theorem be4 (n : Int) : be 4 n = [o8 (n / 16777216 % 256), o8 (n / 65536 % 256), o8 (n / 256 % 256), o8 (n % 256)] := by simp [be, o8, Int.fdiv_eq_ediv_of_nonneg]
theorem be8 (n : Int) : be 8 n = [o8 (n / 72057594037927936 % 256), o8 (n / 281474976710656 % 256), o8 (n / 1099511627776 % 256), o8 (n / 4294967296 % 256), o8 (n / 16777216 % 256), o8 (n / 65536 % 256), o8 (n / 256 % 256), o8 (n % 256)] := by
 simp [be, o8, Int.fdiv_eq_ediv_of_nonneg]
theorem be2_mod (n : Int) : be 2 (IntKind.u16.wrap n) = be 2 n := by
 rw [be2, be2, wrap_u16, show n % 65536 / 256 % 256 = n / 256 % 256 by omega, show n % 65536 % 256 = n % 256 by omega]
theorem be4_mod (n : Int) : be 4 (IntKind.u32.wrap n) = be 4 n := by
 rw [be4, be4, wrap_u32, show n % 4294967296 / 16777216 % 256 = n / 16777216 % 256 by omega, show n % 4294967296 / 65536 % 256 = n / 65536 % 256 by omega, show n % 4294967296 / 256 % 256 = n / 256 % 256 by omega, show n % 4294967296 % 256 = n % 256 by omega]
theorem be8_mod (n : Int) : be 8 (IntKind.u64.wrap n) = be 8 n := by
 rw [be8, be8, wrap_u64, show n % 18446744073709551616 / 72057594037927936 % 256 = n / 72057594037927936 % 256 by omega, show n % 18446744073709551616 / 281474976710656 % 256 = n / 281474976710656 % 256 by omega,
  show n % 18446744073709551616 / 1099511627776 % 256 = n / 1099511627776 % 256 by omega, show n % 18446744073709551616 / 4294967296 % 256 = n / 4294967296 % 256 by omega, show n % 18446744073709551616 / 16777216 % 256 = n / 16777216 % 256 by omega,
  show n % 18446744073709551616 / 65536 % 256 = n / 65536 % 256 by omega, show n % 18446744073709551616 / 256 % 256 = n / 256 % 256 by omega, show n % 18446744073709551616 % 256 = n % 256 by omega]
section
variable {P : Program} {E : Env} {w : World} {U : Nat}
theorem k_u16 (ht : Text P E.wU16 2 13 #[.tmp 4] (c_wU16 E)) (hB : rowB P E.tB E.tU8 1 = true) (i16 : intT P E.tU16 = some .u16) (i8 : intT P E.tU8 = some .u8) {n : Int} (hn : 0 ≤ n ∧ n ≤ 65535) : Wr1 P E E.wU16 U [.int .u16 n] (be 2 n) w := by
 intro dv xs hown hU hb
 refine CallsV.enter ht (by simp) ?_
 intro a hsz hdf harg
 have e0 := harg 0 dv (by simp)
 have e1 := harg 1 (.int .u16 n) (by simp)
 unfold c_wU16
 refine vX (rA (dn (vX (rM (rM ?_)))))
 refine r_shr (by (try simp (disch := (try simp only [sP]); omega) only [eV, e1]) <;> (first | rfl | assumption)) (by (try simp (disch := (try simp only [sP]); omega) only [eV, e1]) <;> (first | rfl | assumption)) (by decide) ?_
 refine r_conv (by assumption) (by assumption) (by (try simp (disch := (try simp only [sP]); omega) only [eV]) <;> (first | rfl | assumption)) ?_
 refine rM ?_
 refine r_conv (by assumption) (by assumption) (by (try simp (disch := (try simp only [sP]); omega) only [eV, e1]) <;> (first | rfl | assumption)) ?_
 refine r_litApp (zs := [IntKind.u8.wrap (n.fdiv (2 ^ (min 8 16))), IntKind.u8.wrap n]) hB ?_ (by intro z hz; simp only [List.mem_cons, List.not_mem_nil, or_false] at hz; rcases hz with rfl | rfl <;> first | exact wrap8_ok _ | decide) rfl (by omega) (by omega) (by simp (disch := (try simp only [sP]); omega) only [eV, e0]) (by omega) (by simp only [zP]; omega) hown hU (by simpa [be] using hb) ?_
 ·simp only [lM]
  simp (disch := (try simp only [sP]); omega) only [eV]
  rfl
 intro v' w' h1 h2
 rw [show [IntKind.u8.wrap (n.fdiv (2 ^ (min 8 16))), IntKind.u8.wrap n].map o8 = be 2 n by rw [be2]; simp only [List.map_cons, List.map_nil, wrap8]; rw [Int.fdiv_eq_ediv_of_nonneg _ (by decide)]; rfl] at h1
 refine rA (dn (vS (vT ?_)))
 exact ⟨by simp only [dF]; exact hdf, v', rO (by simp (disch := (try simp only [sP]); omega) only [eV]), ⟨h1, h2⟩⟩
theorem k_u32 (ht : Text P E.wU32 2 19 #[.tmp 4] (c_wU32 E)) (hB : rowB P E.tB E.tU8 1 = true) (i32 : intT P E.tW = some .u32) (i8 : intT P E.tU8 = some .u8) {n : Int} (hn : 0 ≤ n ∧ n ≤ 4294967295) : Wr1 P E E.wU32 U [.int .u32 n] (be 4 n) w := by
 intro dv xs hown hU hb
 refine CallsV.enter ht (by simp) ?_
 intro a hsz hdf harg
 have e0 := harg 0 dv (by simp)
 have e1 := harg 1 (.int .u32 n) (by simp)
 unfold c_wU32
 refine vX (rA (dn (vX (rM (rM ?_)))))
 refine r_shr (by (try simp (disch := (try simp only [sP]); omega) only [eV, e1]) <;> (first | rfl | assumption)) (by (try simp (disch := (try simp only [sP]); omega) only [eV, e1]) <;> (first | rfl | assumption)) (by decide) ?_
 refine r_conv (by assumption) (by assumption) (by (try simp (disch := (try simp only [sP]); omega) only [eV]) <;> (first | rfl | assumption)) ?_
 refine rM ?_
 refine r_shr (by (try simp (disch := (try simp only [sP]); omega) only [eV, e1]) <;> (first | rfl | assumption)) (by (try simp (disch := (try simp only [sP]); omega) only [eV, e1]) <;> (first | rfl | assumption)) (by decide) ?_
 refine r_conv (by assumption) (by assumption) (by (try simp (disch := (try simp only [sP]); omega) only [eV]) <;> (first | rfl | assumption)) ?_
 refine rM ?_
 refine r_shr (by (try simp (disch := (try simp only [sP]); omega) only [eV, e1]) <;> (first | rfl | assumption)) (by (try simp (disch := (try simp only [sP]); omega) only [eV, e1]) <;> (first | rfl | assumption)) (by decide) ?_
 refine r_conv (by assumption) (by assumption) (by (try simp (disch := (try simp only [sP]); omega) only [eV]) <;> (first | rfl | assumption)) ?_
 refine rM ?_
 refine r_conv (by assumption) (by assumption) (by (try simp (disch := (try simp only [sP]); omega) only [eV, e1]) <;> (first | rfl | assumption)) ?_
 refine r_litApp (zs := [IntKind.u8.wrap (n.fdiv (2 ^ (min 24 32))), IntKind.u8.wrap (n.fdiv (2 ^ (min 16 32))), IntKind.u8.wrap (n.fdiv (2 ^ (min 8 32))), IntKind.u8.wrap n]) hB ?_ (by intro z hz; simp only [List.mem_cons, List.not_mem_nil, or_false] at hz; rcases hz with rfl | rfl | rfl | rfl <;> first | exact wrap8_ok _ | decide) rfl (by omega) (by omega) (by simp (disch := (try simp only [sP]); omega) only [eV, e0]) (by omega) (by simp only [zP]; omega) hown hU (by simpa [be] using hb) ?_
 ·simp only [lM]
  simp (disch := (try simp only [sP]); omega) only [eV]
  rfl
 intro v' w' h1 h2
 rw [show [IntKind.u8.wrap (n.fdiv (2 ^ (min 24 32))), IntKind.u8.wrap (n.fdiv (2 ^ (min 16 32))), IntKind.u8.wrap (n.fdiv (2 ^ (min 8 32))), IntKind.u8.wrap n].map o8 = be 4 n by rw [be4]; simp only [List.map_cons, List.map_nil, wrap8]; simp only [Int.fdiv_eq_ediv_of_nonneg _ (show (0 : Int) ≤ 2 ^ (min 24 32) by decide), Int.fdiv_eq_ediv_of_nonneg _ (show (0 : Int) ≤ 2 ^ (min 16 32) by decide), Int.fdiv_eq_ediv_of_nonneg _ (show (0 : Int) ≤ 2 ^ (min 8 32) by decide)]; rfl] at h1
 refine rA (dn (vS (vT ?_)))
 exact ⟨by simp only [dF]; exact hdf, v', rO (by simp (disch := (try simp only [sP]); omega) only [eV]), ⟨h1, h2⟩⟩
theorem k_u64 (ht : Text P E.wU64 2 31 #[.tmp 4] (c_wU64 E)) (hB : rowB P E.tB E.tU8 1 = true) (i64 : intT P E.tU64 = some .u64) (i8 : intT P E.tU8 = some .u8) {n : Int} (hn : 0 ≤ n ∧ n ≤ 18446744073709551615) : Wr1 P E E.wU64 U [.int .u64 n] (be 8 n) w := by
 intro dv xs hown hU hb
 refine CallsV.enter ht (by simp) ?_
 intro a hsz hdf harg
 have e0 := harg 0 dv (by simp)
 have e1 := harg 1 (.int .u64 n) (by simp)
 unfold c_wU64
 refine vX (rA (dn (vX (rM (rM ?_)))))
 refine r_shr (by (try simp (disch := (try simp only [sP]); omega) only [eV, e1]) <;> (first | rfl | assumption)) (by (try simp (disch := (try simp only [sP]); omega) only [eV, e1]) <;> (first | rfl | assumption)) (by decide) ?_
 refine r_conv (by assumption) (by assumption) (by (try simp (disch := (try simp only [sP]); omega) only [eV]) <;> (first | rfl | assumption)) ?_
 refine rM ?_
 refine r_shr (by (try simp (disch := (try simp only [sP]); omega) only [eV, e1]) <;> (first | rfl | assumption)) (by (try simp (disch := (try simp only [sP]); omega) only [eV, e1]) <;> (first | rfl | assumption)) (by decide) ?_
 refine r_conv (by assumption) (by assumption) (by (try simp (disch := (try simp only [sP]); omega) only [eV]) <;> (first | rfl | assumption)) ?_
 refine rM ?_
 refine r_shr (by (try simp (disch := (try simp only [sP]); omega) only [eV, e1]) <;> (first | rfl | assumption)) (by (try simp (disch := (try simp only [sP]); omega) only [eV, e1]) <;> (first | rfl | assumption)) (by decide) ?_
 refine r_conv (by assumption) (by assumption) (by (try simp (disch := (try simp only [sP]); omega) only [eV]) <;> (first | rfl | assumption)) ?_
 refine rM ?_
 refine r_shr (by (try simp (disch := (try simp only [sP]); omega) only [eV, e1]) <;> (first | rfl | assumption)) (by (try simp (disch := (try simp only [sP]); omega) only [eV, e1]) <;> (first | rfl | assumption)) (by decide) ?_
 refine r_conv (by assumption) (by assumption) (by (try simp (disch := (try simp only [sP]); omega) only [eV]) <;> (first | rfl | assumption)) ?_
 refine rM ?_
 refine r_shr (by (try simp (disch := (try simp only [sP]); omega) only [eV, e1]) <;> (first | rfl | assumption)) (by (try simp (disch := (try simp only [sP]); omega) only [eV, e1]) <;> (first | rfl | assumption)) (by decide) ?_
 refine r_conv (by assumption) (by assumption) (by (try simp (disch := (try simp only [sP]); omega) only [eV]) <;> (first | rfl | assumption)) ?_
 refine rM ?_
 refine r_shr (by (try simp (disch := (try simp only [sP]); omega) only [eV, e1]) <;> (first | rfl | assumption)) (by (try simp (disch := (try simp only [sP]); omega) only [eV, e1]) <;> (first | rfl | assumption)) (by decide) ?_
 refine r_conv (by assumption) (by assumption) (by (try simp (disch := (try simp only [sP]); omega) only [eV]) <;> (first | rfl | assumption)) ?_
 refine rM ?_
 refine r_shr (by (try simp (disch := (try simp only [sP]); omega) only [eV, e1]) <;> (first | rfl | assumption)) (by (try simp (disch := (try simp only [sP]); omega) only [eV, e1]) <;> (first | rfl | assumption)) (by decide) ?_
 refine r_conv (by assumption) (by assumption) (by (try simp (disch := (try simp only [sP]); omega) only [eV]) <;> (first | rfl | assumption)) ?_
 refine rM ?_
 refine r_conv (by assumption) (by assumption) (by (try simp (disch := (try simp only [sP]); omega) only [eV, e1]) <;> (first | rfl | assumption)) ?_
 refine r_litApp (zs := [IntKind.u8.wrap (n.fdiv (2 ^ (min 56 64))), IntKind.u8.wrap (n.fdiv (2 ^ (min 48 64))), IntKind.u8.wrap (n.fdiv (2 ^ (min 40 64))), IntKind.u8.wrap (n.fdiv (2 ^ (min 32 64))), IntKind.u8.wrap (n.fdiv (2 ^ (min 24 64))), IntKind.u8.wrap (n.fdiv (2 ^ (min 16 64))), IntKind.u8.wrap (n.fdiv (2 ^ (min 8 64))), IntKind.u8.wrap n]) hB ?_ (by intro z hz; simp only [List.mem_cons, List.not_mem_nil, or_false] at hz; rcases hz with rfl | rfl | rfl | rfl | rfl | rfl | rfl | rfl <;> first | exact wrap8_ok _ | decide) rfl (by omega) (by omega) (by simp (disch := (try simp only [sP]); omega) only [eV, e0]) (by omega) (by simp only [zP]; omega) hown hU (by simpa [be] using hb) ?_
 ·simp only [lM]
  simp (disch := (try simp only [sP]); omega) only [eV]
  rfl
 intro v' w' h1 h2
 rw [show [IntKind.u8.wrap (n.fdiv (2 ^ (min 56 64))), IntKind.u8.wrap (n.fdiv (2 ^ (min 48 64))), IntKind.u8.wrap (n.fdiv (2 ^ (min 40 64))), IntKind.u8.wrap (n.fdiv (2 ^ (min 32 64))), IntKind.u8.wrap (n.fdiv (2 ^ (min 24 64))), IntKind.u8.wrap (n.fdiv (2 ^ (min 16 64))), IntKind.u8.wrap (n.fdiv (2 ^ (min 8 64))), IntKind.u8.wrap n].map o8 = be 8 n by rw [be8]; simp only [List.map_cons, List.map_nil, wrap8]; simp only [Int.fdiv_eq_ediv_of_nonneg _ (show (0 : Int) ≤ 2 ^ (min 56 64) by decide), Int.fdiv_eq_ediv_of_nonneg _ (show (0 : Int) ≤ 2 ^ (min 48 64) by decide), Int.fdiv_eq_ediv_of_nonneg _ (show (0 : Int) ≤ 2 ^ (min 40 64) by decide), Int.fdiv_eq_ediv_of_nonneg _ (show (0 : Int) ≤ 2 ^ (min 32 64) by decide), Int.fdiv_eq_ediv_of_nonneg _ (show (0 : Int) ≤ 2 ^ (min 24 64) by decide), Int.fdiv_eq_ediv_of_nonneg _ (show (0 : Int) ≤ 2 ^ (min 16 64) by decide), Int.fdiv_eq_ediv_of_nonneg _ (show (0 : Int) ≤ 2 ^ (min 8 64) by decide)]; rfl] at h1
 refine rA (dn (vS (vT ?_)))
 exact ⟨by simp only [dF]; exact hdf, v', rO (by simp (disch := (try simp only [sP]); omega) only [eV]), ⟨h1, h2⟩⟩
theorem k_i16 (ht : Text P E.wI16 2 9 #[.tmp 4] (c_wI16 E)) (is : intT P E.tI16 = some .i16) (iu : intT P E.tU16 = some .u16) (hc : ∀ n U w, 0 ≤ n ∧ n ≤ 65535 → Wr1 P E E.wU16 U [.int .u16 n] (be 2 n) w) {n : Int} : Wr1 P E E.wI16 U [.int .i16 n] (be 2 n) w := by
 intro dv xs hown hU hb
 refine CallsV.enter ht (by simp) ?_
 intro a hsz hdf harg
 have e0 := harg 0 dv (by simp)
 have e1 := harg 1 (.int .i16 n) (by simp)
 unfold c_wI16
 refine vX (rA (dn (vX (rM (rM ?_)))))
 refine r_conv (by assumption) (by assumption) (by (try simp (disch := (try simp only [sP]); omega) only [eV, e1]) <;> (first | rfl | assumption)) ?_
 refine r_call' (args := #[dv, .int .u16 (IntKind.u16.wrap n)]) ?_ (hc (IntKind.u16.wrap n) U w (by rw [wrap_u16]; omega) dv xs hown hU (by rw [be2_mod]; exact hb)) ?_
 ·simp only [lM]
  simp (disch := (try simp only [sP]); omega) only [eV, e0]
 intro v' w' hs
 rw [be2_mod] at hs
 refine rA (dn (vS (vT ?_)))
 exact ⟨by simp only [dF]; exact hdf, v', rO (by simp (disch := (try simp only [sP]); omega) only [eV]), hs⟩
theorem k_i32 (ht : Text P E.wI32 2 9 #[.tmp 4] (c_wI32 E)) (is : intT P E.tI32 = some .i32) (iu : intT P E.tW = some .u32) (hc : ∀ n U w, 0 ≤ n ∧ n ≤ 4294967295 → Wr1 P E E.wU32 U [.int .u32 n] (be 4 n) w) {n : Int} : Wr1 P E E.wI32 U [.int .i32 n] (be 4 n) w := by
 intro dv xs hown hU hb
 refine CallsV.enter ht (by simp) ?_
 intro a hsz hdf harg
 have e0 := harg 0 dv (by simp)
 have e1 := harg 1 (.int .i32 n) (by simp)
 unfold c_wI32
 refine vX (rA (dn (vX (rM (rM ?_)))))
 refine r_conv (by assumption) (by assumption) (by (try simp (disch := (try simp only [sP]); omega) only [eV, e1]) <;> (first | rfl | assumption)) ?_
 refine r_call' (args := #[dv, .int .u32 (IntKind.u32.wrap n)]) ?_ (hc (IntKind.u32.wrap n) U w (by rw [wrap_u32]; omega) dv xs hown hU (by rw [be4_mod]; exact hb)) ?_
 ·simp only [lM]
  simp (disch := (try simp only [sP]); omega) only [eV, e0]
 intro v' w' hs
 rw [be4_mod] at hs
 refine rA (dn (vS (vT ?_)))
 exact ⟨by simp only [dF]; exact hdf, v', rO (by simp (disch := (try simp only [sP]); omega) only [eV]), hs⟩
theorem k_i64 (ht : Text P E.wI64 2 9 #[.tmp 4] (c_wI64 E)) (is : intT P E.tI64 = some .i64) (iu : intT P E.tU64 = some .u64) (hc : ∀ n U w, 0 ≤ n ∧ n ≤ 18446744073709551615 → Wr1 P E E.wU64 U [.int .u64 n] (be 8 n) w) {n : Int} : Wr1 P E E.wI64 U [.int .i64 n] (be 8 n) w := by
 intro dv xs hown hU hb
 refine CallsV.enter ht (by simp) ?_
 intro a hsz hdf harg
 have e0 := harg 0 dv (by simp)
 have e1 := harg 1 (.int .i64 n) (by simp)
 unfold c_wI64
 refine vX (rA (dn (vX (rM (rM ?_)))))
 refine r_conv (by assumption) (by assumption) (by (try simp (disch := (try simp only [sP]); omega) only [eV, e1]) <;> (first | rfl | assumption)) ?_
 refine r_call' (args := #[dv, .int .u64 (IntKind.u64.wrap n)]) ?_ (hc (IntKind.u64.wrap n) U w (by rw [wrap_u64]; omega) dv xs hown hU (by rw [be8_mod]; exact hb)) ?_
 ·simp only [lM]
  simp (disch := (try simp only [sP]); omega) only [eV, e0]
 intro v' w' hs
 rw [be8_mod] at hs
 refine rA (dn (vS (vT ?_)))
 exact ⟨by simp only [dF]; exact hdf, v', rO (by simp (disch := (try simp only [sP]); omega) only [eV]), hs⟩
theorem k_i8 (ht : Text P E.wI8 2 10 #[.tmp 4] (c_wI8 E)) (hB : rowB P E.tB E.tU8 1 = true) (is : intT P E.tI8 = some .i8) (i8 : intT P E.tU8 = some .u8) {n : Int} : Wr1 P E E.wI8 U [.int .i8 n] (be 1 n) w := by
 intro dv xs hown hU hb
 refine CallsV.enter ht (by simp) ?_
 intro a hsz hdf harg
 have e0 := harg 0 dv (by simp)
 have e1 := harg 1 (.int .i8 n) (by simp)
 unfold c_wI8
 refine vX (rA (dn (vX (rM (rM ?_)))))
 refine r_conv (by assumption) (by assumption) (by (try simp (disch := (try simp only [sP]); omega) only [eV, e1]) <;> (first | rfl | assumption)) ?_
 refine r_litApp (zs := [IntKind.u8.wrap n]) hB ?_ (by intro z hz; simp only [List.mem_cons, List.not_mem_nil, or_false] at hz; rcases hz with rfl <;> first | exact wrap8_ok _ | decide) rfl (by omega) (by omega) (by simp (disch := (try simp only [sP]); omega) only [eV, e0]) (by omega) (by simp only [zP]; omega) hown hU (by simpa [be] using hb) ?_
 ·simp only [lM]
  simp (disch := (try simp only [sP]); omega) only [eV]
  rfl
 intro v' w' h1 h2
 rw [show [IntKind.u8.wrap n].map o8 = be 1 n by rw [be1]; simp only [List.map_cons, List.map_nil, wrap8]] at h1
 refine rA (dn (vS (vT ?_)))
 exact ⟨by simp only [dF]; exact hdf, v', rO (by simp (disch := (try simp only [sP]); omega) only [eV]), ⟨h1, h2⟩⟩
theorem k_bool (ht : Text P E.wBool 2 12 #[.tmp 4] (c_wBool E)) (hB : rowB P E.tB E.tU8 1 = true) {b : Bool} : Wr1 P E E.wBool U [.bool b] ([if b then 1 else 0]) w := by
 intro dv xs hown hU hb
 refine CallsV.enter ht (by simp) ?_
 intro a hsz hdf harg
 have e0 := harg 0 dv (by simp)
 have e1 := harg 1 (.bool b) (by simp)
 unfold c_wBool
 refine vX (rA (dn (vS (vX (rM (dn ?_))))))
 refine vS (vC (t := b) (by simp (disch := (try simp only [sP]); omega) only [eV, e1]) ?_ ?_)
 ·intro hbt
  refine vX (rM ?_)
  refine r_litApp (zs := [1]) hB ?_ (by intro z hz; simp only [List.mem_cons, List.not_mem_nil, or_false] at hz; rcases hz with rfl <;> first | exact wrap8_ok _ | decide) rfl (by omega) (by omega) (by simp (disch := (try simp only [sP]); omega) only [eV, e0]) (by omega) (by simp only [zP]; omega) hown hU (by simpa [be] using hb) ?_
  ·simp only [lM]
   simp (disch := (try simp only [sP]); omega) only [eV]
   rfl
  intro v' w' h1 h2
  refine rA (dn (vS (vT ?_)))
  exact ⟨by simp only [dF]; exact hdf, v', rO (by simp (disch := (try simp only [sP]); omega) only [eV]), ⟨by rw [hbt]; exact h1, h2⟩⟩
 ·intro hbt
  refine vK (vN (vX (rM ?_)))
  refine r_litApp (zs := [0]) hB ?_ (by intro z hz; simp only [List.mem_cons, List.not_mem_nil, or_false] at hz; rcases hz with rfl <;> first | exact wrap8_ok _ | decide) rfl (by omega) (by omega) (by simp (disch := (try simp only [sP]); omega) only [eV, e0]) (by omega) (by simp only [zP]; omega) hown hU (by simpa [be] using hb) ?_
  ·simp only [lM]
   simp (disch := (try simp only [sP]); omega) only [eV]
   rfl
  intro v' w' h1 h2
  refine rA (dn (vS (vT ?_)))
  exact ⟨by simp only [dF]; exact hdf, v', rO (by simp (disch := (try simp only [sP]); omega) only [eV]), ⟨by rw [hbt]; exact h1, h2⟩⟩
end
end Go.Km
