/- The texts of the functions of kbin that write (printed by a program from the translation). -/
import Derived.Test.YtnbhpeaapbpaeaaKmGen
namespace Go.Km
open Go
def rgd (l : List Oper) : Code := .region 0 l.toArray true

/-- pub-kmsg/pub/kmsg/inner/kbin.AppendBool: 2 parameters, 12 temporaries; results #[.tmp 4] -/
def c_wBool (E : Env) : Code :=
  (sq [(rg [⟨some 4, .assign (.const (.slice none 0 0)), E.tBytes, "", #[], none⟩]),
    (sq [(rg [⟨some 5, .move (.tmp 1), E.tBool, "", #[], none⟩]),
      (.cond (.tmp 5)
        (sq [(rg [⟨some 6, .move (.tmp 0), E.tBytes, "", #[], none⟩,
            ⟨some 7, .buildSlice E.tBytes 1 #[(0, (.const (.int .u8 1)))], E.tBytes, "", #[], none⟩,
            ⟨some 8, .call { callee := .builtin .append, args := #[(.tmp 6), (.tmp 7)], argTypes := #[E.tBytes, E.tBytes] }, E.tBytes, "", #[], none⟩,
            ⟨some 4, .assign (.tmp 8), E.tBytes, "", #[], none⟩]),
          .ret])
        .skip)]),
    (rg [⟨some 9, .move (.tmp 0), E.tBytes, "", #[], none⟩,
      ⟨some 10, .buildSlice E.tBytes 1 #[(0, (.const (.int .u8 0)))], E.tBytes, "", #[], none⟩,
      ⟨some 11, .call { callee := .builtin .append, args := #[(.tmp 9), (.tmp 10)], argTypes := #[E.tBytes, E.tBytes] }, E.tBytes, "", #[], none⟩,
      ⟨some 4, .assign (.tmp 11), E.tBytes, "", #[], none⟩]),
    .ret])
/-- pub-kmsg/pub/kmsg/inner/kbin.AppendInt8: 2 parameters, 10 temporaries; results #[.tmp 4] -/
def c_wI8 (E : Env) : Code :=
  (sq [(rg [⟨some 4, .assign (.const (.slice none 0 0)), E.tBytes, "", #[], none⟩]),
    (rg [⟨some 5, .move (.tmp 0), E.tBytes, "", #[], none⟩,
      ⟨some 6, .move (.tmp 1), E.tI8, "", #[], none⟩,
      ⟨some 7, .convert E.tI8 E.tU8 (.tmp 6), E.tU8, "", #[], none⟩,
      ⟨some 8, .buildSlice E.tBytes 1 #[(0, (.tmp 7))], E.tBytes, "", #[], none⟩,
      ⟨some 9, .call { callee := .builtin .append, args := #[(.tmp 5), (.tmp 8)], argTypes := #[E.tBytes, E.tBytes] }, E.tBytes, "", #[], none⟩,
      ⟨some 4, .assign (.tmp 9), E.tBytes, "", #[], none⟩]),
    .ret])
/-- pub-kmsg/pub/kmsg/inner/kbin.AppendInt16: 2 parameters, 9 temporaries; results #[.tmp 4] -/
def c_wI16 (E : Env) : Code :=
  (sq [(rg [⟨some 4, .assign (.const (.slice none 0 0)), E.tBytes, "", #[], none⟩]),
    (rg [⟨some 5, .move (.tmp 0), E.tBytes, "", #[], none⟩,
      ⟨some 6, .move (.tmp 1), E.tI16, "", #[], none⟩,
      ⟨some 7, .convert E.tI16 E.tU16 (.tmp 6), E.tU16, "", #[], none⟩,
      ⟨some 8, .call { callee := .value (.func E.wU16), args := #[(.tmp 5), (.tmp 7)], argTypes := #[E.tBytes, E.tU16] }, E.tBytes, "", #[], none⟩,
      ⟨some 4, .assign (.tmp 8), E.tBytes, "", #[], none⟩]),
    .ret])
/-- pub-kmsg/pub/kmsg/inner/kbin.AppendUint16: 2 parameters, 13 temporaries; results #[.tmp 4] -/
def c_wU16 (E : Env) : Code :=
  (sq [(rg [⟨some 4, .assign (.const (.slice none 0 0)), E.tBytes, "", #[], none⟩]),
    (rg [⟨some 5, .move (.tmp 0), E.tBytes, "", #[], none⟩,
      ⟨some 6, .move (.tmp 1), E.tU16, "", #[], none⟩,
      ⟨some 7, .binOp .shr E.tU16 (.tmp 6) (.const (.int .u64 8)) E.tUint, E.tU16, "", #[], none⟩,
      ⟨some 8, .convert E.tU16 E.tU8 (.tmp 7), E.tU8, "", #[], none⟩,
      ⟨some 9, .move (.tmp 1), E.tU16, "", #[], none⟩,
      ⟨some 10, .convert E.tU16 E.tU8 (.tmp 9), E.tU8, "", #[], none⟩,
      ⟨some 11, .buildSlice E.tBytes 2 #[(0, (.tmp 8)), (1, (.tmp 10))], E.tBytes, "", #[], none⟩,
      ⟨some 12, .call { callee := .builtin .append, args := #[(.tmp 5), (.tmp 11)], argTypes := #[E.tBytes, E.tBytes] }, E.tBytes, "", #[], none⟩,
      ⟨some 4, .assign (.tmp 12), E.tBytes, "", #[], none⟩]),
    .ret])
/-- pub-kmsg/pub/kmsg/inner/kbin.AppendInt32: 2 parameters, 9 temporaries; results #[.tmp 4] -/
def c_wI32 (E : Env) : Code :=
  (sq [(rg [⟨some 4, .assign (.const (.slice none 0 0)), E.tBytes, "", #[], none⟩]),
    (rg [⟨some 5, .move (.tmp 0), E.tBytes, "", #[], none⟩,
      ⟨some 6, .move (.tmp 1), E.tI32, "", #[], none⟩,
      ⟨some 7, .convert E.tI32 E.tU32 (.tmp 6), E.tU32, "", #[], none⟩,
      ⟨some 8, .call { callee := .value (.func E.wU32), args := #[(.tmp 5), (.tmp 7)], argTypes := #[E.tBytes, E.tU32] }, E.tBytes, "", #[], none⟩,
      ⟨some 4, .assign (.tmp 8), E.tBytes, "", #[], none⟩]),
    .ret])
/-- pub-kmsg/pub/kmsg/inner/kbin.AppendUint32: 2 parameters, 19 temporaries; results #[.tmp 4] -/
def c_wU32 (E : Env) : Code :=
  (sq [(rg [⟨some 4, .assign (.const (.slice none 0 0)), E.tBytes, "", #[], none⟩]),
    (rg [⟨some 5, .move (.tmp 0), E.tBytes, "", #[], none⟩,
      ⟨some 6, .move (.tmp 1), E.tU32, "", #[], none⟩,
      ⟨some 7, .binOp .shr E.tU32 (.tmp 6) (.const (.int .u64 24)) E.tUint, E.tU32, "", #[], none⟩,
      ⟨some 8, .convert E.tU32 E.tU8 (.tmp 7), E.tU8, "", #[], none⟩,
      ⟨some 9, .move (.tmp 1), E.tU32, "", #[], none⟩,
      ⟨some 10, .binOp .shr E.tU32 (.tmp 9) (.const (.int .u64 16)) E.tUint, E.tU32, "", #[], none⟩,
      ⟨some 11, .convert E.tU32 E.tU8 (.tmp 10), E.tU8, "", #[], none⟩,
      ⟨some 12, .move (.tmp 1), E.tU32, "", #[], none⟩,
      ⟨some 13, .binOp .shr E.tU32 (.tmp 12) (.const (.int .u64 8)) E.tUint, E.tU32, "", #[], none⟩,
      ⟨some 14, .convert E.tU32 E.tU8 (.tmp 13), E.tU8, "", #[], none⟩,
      ⟨some 15, .move (.tmp 1), E.tU32, "", #[], none⟩,
      ⟨some 16, .convert E.tU32 E.tU8 (.tmp 15), E.tU8, "", #[], none⟩,
      ⟨some 17, .buildSlice E.tBytes 4 #[(0, (.tmp 8)), (1, (.tmp 11)), (2, (.tmp 14)), (3, (.tmp 16))], E.tBytes, "", #[], none⟩,
      ⟨some 18, .call { callee := .builtin .append, args := #[(.tmp 5), (.tmp 17)], argTypes := #[E.tBytes, E.tBytes] }, E.tBytes, "", #[], none⟩,
      ⟨some 4, .assign (.tmp 18), E.tBytes, "", #[], none⟩]),
    .ret])
/-- pub-kmsg/pub/kmsg/inner/kbin.AppendInt64: 2 parameters, 9 temporaries; results #[.tmp 4] -/
def c_wI64 (E : Env) : Code :=
  (sq [(rg [⟨some 4, .assign (.const (.slice none 0 0)), E.tBytes, "", #[], none⟩]),
    (rg [⟨some 5, .move (.tmp 0), E.tBytes, "", #[], none⟩,
      ⟨some 6, .move (.tmp 1), E.tI64, "", #[], none⟩,
      ⟨some 7, .convert E.tI64 E.tU64 (.tmp 6), E.tU64, "", #[], none⟩,
      ⟨some 8, .call { callee := .value (.func E.wU64), args := #[(.tmp 5), (.tmp 7)], argTypes := #[E.tBytes, E.tU64] }, E.tBytes, "", #[], none⟩,
      ⟨some 4, .assign (.tmp 8), E.tBytes, "", #[], none⟩]),
    .ret])
/-- pub-kmsg/pub/kmsg/inner/kbin.appendUint64: 2 parameters, 31 temporaries; results #[.tmp 4] -/
def c_wU64 (E : Env) : Code :=
  (sq [(rg [⟨some 4, .assign (.const (.slice none 0 0)), E.tBytes, "", #[], none⟩]),
    (rg [⟨some 5, .move (.tmp 0), E.tBytes, "", #[], none⟩,
      ⟨some 6, .move (.tmp 1), E.tU64, "", #[], none⟩,
      ⟨some 7, .binOp .shr E.tU64 (.tmp 6) (.const (.int .u64 56)) E.tUint, E.tU64, "", #[], none⟩,
      ⟨some 8, .convert E.tU64 E.tU8 (.tmp 7), E.tU8, "", #[], none⟩,
      ⟨some 9, .move (.tmp 1), E.tU64, "", #[], none⟩,
      ⟨some 10, .binOp .shr E.tU64 (.tmp 9) (.const (.int .u64 48)) E.tUint, E.tU64, "", #[], none⟩,
      ⟨some 11, .convert E.tU64 E.tU8 (.tmp 10), E.tU8, "", #[], none⟩,
      ⟨some 12, .move (.tmp 1), E.tU64, "", #[], none⟩,
      ⟨some 13, .binOp .shr E.tU64 (.tmp 12) (.const (.int .u64 40)) E.tUint, E.tU64, "", #[], none⟩,
      ⟨some 14, .convert E.tU64 E.tU8 (.tmp 13), E.tU8, "", #[], none⟩,
      ⟨some 15, .move (.tmp 1), E.tU64, "", #[], none⟩,
      ⟨some 16, .binOp .shr E.tU64 (.tmp 15) (.const (.int .u64 32)) E.tUint, E.tU64, "", #[], none⟩,
      ⟨some 17, .convert E.tU64 E.tU8 (.tmp 16), E.tU8, "", #[], none⟩,
      ⟨some 18, .move (.tmp 1), E.tU64, "", #[], none⟩,
      ⟨some 19, .binOp .shr E.tU64 (.tmp 18) (.const (.int .u64 24)) E.tUint, E.tU64, "", #[], none⟩,
      ⟨some 20, .convert E.tU64 E.tU8 (.tmp 19), E.tU8, "", #[], none⟩,
      ⟨some 21, .move (.tmp 1), E.tU64, "", #[], none⟩,
      ⟨some 22, .binOp .shr E.tU64 (.tmp 21) (.const (.int .u64 16)) E.tUint, E.tU64, "", #[], none⟩,
      ⟨some 23, .convert E.tU64 E.tU8 (.tmp 22), E.tU8, "", #[], none⟩,
      ⟨some 24, .move (.tmp 1), E.tU64, "", #[], none⟩,
      ⟨some 25, .binOp .shr E.tU64 (.tmp 24) (.const (.int .u64 8)) E.tUint, E.tU64, "", #[], none⟩,
      ⟨some 26, .convert E.tU64 E.tU8 (.tmp 25), E.tU8, "", #[], none⟩,
      ⟨some 27, .move (.tmp 1), E.tU64, "", #[], none⟩,
      ⟨some 28, .convert E.tU64 E.tU8 (.tmp 27), E.tU8, "", #[], none⟩,
      ⟨some 29, .buildSlice E.tBytes 8 #[(0, (.tmp 8)), (1, (.tmp 11)), (2, (.tmp 14)), (3, (.tmp 17)), (4, (.tmp 20)), (5, (.tmp 23)), (6, (.tmp 26)), (7, (.tmp 28))], E.tBytes, "", #[], none⟩,
      ⟨some 30, .call { callee := .builtin .append, args := #[(.tmp 5), (.tmp 29)], argTypes := #[E.tBytes, E.tBytes] }, E.tBytes, "", #[], none⟩,
      ⟨some 4, .assign (.tmp 30), E.tBytes, "", #[], none⟩]),
    .ret])
/-- pub-kmsg/pub/kmsg/inner/kbin.AppendUuid: 2 parameters, 8 temporaries; results #[.tmp 4] -/
def c_wUuid (E : Env) : Code :=
  (sq [(rg [⟨some 3, .box E.tUuid (.tmp 1), 0, "", #[], none⟩,
      ⟨some 4, .assign (.const (.slice none 0 0)), E.tBytes, "", #[], none⟩]),
    (rg [⟨some 5, .move (.tmp 0), E.tBytes, "", #[], none⟩,
      ⟨some 6, .slice E.tUuid (.tmp 3) none none none, E.tBytes, "", #[], none⟩,
      ⟨some 7, .call { callee := .builtin .append, args := #[(.tmp 5), (.tmp 6)], argTypes := #[E.tBytes, E.tBytes] }, E.tBytes, "", #[], none⟩,
      ⟨some 4, .assign (.tmp 7), E.tBytes, "", #[], none⟩]),
    .ret])
/-- pub-kmsg/pub/kmsg/inner/kbin.AppendString: 2 parameters, 13 temporaries; results #[.tmp 4] -/
def c_wStr (E : Env) : Code :=
  (sq [(rg [⟨some 4, .assign (.const (.slice none 0 0)), E.tBytes, "", #[], none⟩]),
    (rg [⟨some 5, .move (.tmp 0), E.tBytes, "", #[], none⟩,
      ⟨some 6, .move (.tmp 1), E.tStr, "", #[], none⟩,
      ⟨some 7, .call { callee := .builtin .len, args := #[(.tmp 6)], argTypes := #[E.tStr] }, E.tInt, "", #[], none⟩,
      ⟨some 8, .convert E.tInt E.tI16 (.tmp 7), E.tI16, "", #[], none⟩,
      ⟨some 9, .call { callee := .value (.func E.wI16), args := #[(.tmp 5), (.tmp 8)], argTypes := #[E.tBytes, E.tI16] }, E.tBytes, "", #[], none⟩,
      ⟨some 0, .assign (.tmp 9), E.tBytes, "", #[], none⟩]),
    (rg [⟨some 10, .move (.tmp 0), E.tBytes, "", #[], none⟩,
      ⟨some 11, .move (.tmp 1), E.tStr, "", #[], none⟩,
      ⟨some 12, .call { callee := .builtin .append, args := #[(.tmp 10), (.tmp 11)], argTypes := #[E.tBytes, E.tStr] }, E.tBytes, "", #[], none⟩,
      ⟨some 4, .assign (.tmp 12), E.tBytes, "", #[], none⟩]),
    .ret])
/-- pub-kmsg/pub/kmsg/inner/kbin.AppendCompactString: 2 parameters, 14 temporaries; results #[.tmp 4] -/
def c_wCStr (E : Env) : Code :=
  (sq [(rg [⟨some 4, .assign (.const (.slice none 0 0)), E.tBytes, "", #[], none⟩]),
    (rg [⟨some 5, .move (.tmp 0), E.tBytes, "", #[], none⟩,
      ⟨some 6, .move (.tmp 1), E.tStr, "", #[], none⟩,
      ⟨some 7, .call { callee := .builtin .len, args := #[(.tmp 6)], argTypes := #[E.tStr] }, E.tInt, "", #[], none⟩,
      ⟨some 8, .convert E.tInt E.tU32 (.tmp 7), E.tU32, "", #[], none⟩,
      ⟨some 9, .binOp .add E.tU32 (.const (.int .u32 1)) (.tmp 8) E.tU32, E.tU32, "", #[], none⟩,
      ⟨some 10, .call { callee := .value (.func E.wUvarint), args := #[(.tmp 5), (.tmp 9)], argTypes := #[E.tBytes, E.tU32] }, E.tBytes, "", #[], none⟩,
      ⟨some 0, .assign (.tmp 10), E.tBytes, "", #[], none⟩]),
    (rg [⟨some 11, .move (.tmp 0), E.tBytes, "", #[], none⟩,
      ⟨some 12, .move (.tmp 1), E.tStr, "", #[], none⟩,
      ⟨some 13, .call { callee := .builtin .append, args := #[(.tmp 11), (.tmp 12)], argTypes := #[E.tBytes, E.tStr] }, E.tBytes, "", #[], none⟩,
      ⟨some 4, .assign (.tmp 13), E.tBytes, "", #[], none⟩]),
    .ret])
/-- pub-kmsg/pub/kmsg/inner/kbin.AppendNullableString: 2 parameters, 14 temporaries; results #[.tmp 4] -/
def c_wNStr (E : Env) : Code :=
  (sq [(rg [⟨some 4, .assign (.const (.slice none 0 0)), E.tBytes, "", #[], none⟩]),
    (sq [(rg [⟨some 5, .move (.tmp 1), E.tPStr, "", #[], none⟩,
        ⟨some 6, .binOp .eql E.tPStr (.tmp 5) (.const (.pointer none)) E.tPStr, E.tBool, "", #[], none⟩]),
      (.cond (.tmp 6)
        (sq [(rg [⟨some 7, .move (.tmp 0), E.tBytes, "", #[], none⟩,
            ⟨some 8, .call { callee := .value (.func E.wI16), args := #[(.tmp 7), (.const (.int .i16 (-1)))], argTypes := #[E.tBytes, E.tI16] }, E.tBytes, "", #[], none⟩,
            ⟨some 4, .assign (.tmp 8), E.tBytes, "", #[], none⟩]),
          .ret])
        .skip)]),
    (rg [⟨some 9, .move (.tmp 0), E.tBytes, "", #[], none⟩,
      ⟨some 10, .move (.tmp 1), E.tPStr, "", #[], none⟩,
      ⟨some 11, .nilCheck (.tmp 10), 0, "", #[], none⟩,
      ⟨some 12, .load E.tStr (.tmp 11), E.tStr, "", #[], none⟩,
      ⟨some 13, .call { callee := .value (.func E.wStr), args := #[(.tmp 9), (.tmp 12)], argTypes := #[E.tBytes, E.tStr] }, E.tBytes, "", #[], none⟩,
      ⟨some 4, .assign (.tmp 13), E.tBytes, "", #[], none⟩]),
    .ret])
/-- pub-kmsg/pub/kmsg/inner/kbin.AppendCompactNullableString: 2 parameters, 14 temporaries; results #[.tmp 4] -/
def c_wCNStr (E : Env) : Code :=
  (sq [(rg [⟨some 4, .assign (.const (.slice none 0 0)), E.tBytes, "", #[], none⟩]),
    (sq [(rg [⟨some 5, .move (.tmp 1), E.tPStr, "", #[], none⟩,
        ⟨some 6, .binOp .eql E.tPStr (.tmp 5) (.const (.pointer none)) E.tPStr, E.tBool, "", #[], none⟩]),
      (.cond (.tmp 6)
        (sq [(rg [⟨some 7, .move (.tmp 0), E.tBytes, "", #[], none⟩,
            ⟨some 8, .call { callee := .value (.func E.wUvarint), args := #[(.tmp 7), (.const (.int .u32 0))], argTypes := #[E.tBytes, E.tU32] }, E.tBytes, "", #[], none⟩,
            ⟨some 4, .assign (.tmp 8), E.tBytes, "", #[], none⟩]),
          .ret])
        .skip)]),
    (rg [⟨some 9, .move (.tmp 0), E.tBytes, "", #[], none⟩,
      ⟨some 10, .move (.tmp 1), E.tPStr, "", #[], none⟩,
      ⟨some 11, .nilCheck (.tmp 10), 0, "", #[], none⟩,
      ⟨some 12, .load E.tStr (.tmp 11), E.tStr, "", #[], none⟩,
      ⟨some 13, .call { callee := .value (.func E.wCStr), args := #[(.tmp 9), (.tmp 12)], argTypes := #[E.tBytes, E.tStr] }, E.tBytes, "", #[], none⟩,
      ⟨some 4, .assign (.tmp 13), E.tBytes, "", #[], none⟩]),
    .ret])
/-- pub-kmsg/pub/kmsg/inner/kbin.AppendBytes: 2 parameters, 13 temporaries; results #[.tmp 4] -/
def c_wBytes (E : Env) : Code :=
  (sq [(rg [⟨some 4, .assign (.const (.slice none 0 0)), E.tBytes, "", #[], none⟩]),
    (rg [⟨some 5, .move (.tmp 0), E.tBytes, "", #[], none⟩,
      ⟨some 6, .move (.tmp 1), E.tBytes, "", #[], none⟩,
      ⟨some 7, .call { callee := .builtin .len, args := #[(.tmp 6)], argTypes := #[E.tBytes] }, E.tInt, "", #[], none⟩,
      ⟨some 8, .convert E.tInt E.tI32 (.tmp 7), E.tI32, "", #[], none⟩,
      ⟨some 9, .call { callee := .value (.func E.wI32), args := #[(.tmp 5), (.tmp 8)], argTypes := #[E.tBytes, E.tI32] }, E.tBytes, "", #[], none⟩,
      ⟨some 0, .assign (.tmp 9), E.tBytes, "", #[], none⟩]),
    (rg [⟨some 10, .move (.tmp 0), E.tBytes, "", #[], none⟩,
      ⟨some 11, .move (.tmp 1), E.tBytes, "", #[], none⟩,
      ⟨some 12, .call { callee := .builtin .append, args := #[(.tmp 10), (.tmp 11)], argTypes := #[E.tBytes, E.tBytes] }, E.tBytes, "", #[], none⟩,
      ⟨some 4, .assign (.tmp 12), E.tBytes, "", #[], none⟩]),
    .ret])
/-- pub-kmsg/pub/kmsg/inner/kbin.AppendCompactBytes: 2 parameters, 14 temporaries; results #[.tmp 4] -/
def c_wCBytes (E : Env) : Code :=
  (sq [(rg [⟨some 4, .assign (.const (.slice none 0 0)), E.tBytes, "", #[], none⟩]),
    (rg [⟨some 5, .move (.tmp 0), E.tBytes, "", #[], none⟩,
      ⟨some 6, .move (.tmp 1), E.tBytes, "", #[], none⟩,
      ⟨some 7, .call { callee := .builtin .len, args := #[(.tmp 6)], argTypes := #[E.tBytes] }, E.tInt, "", #[], none⟩,
      ⟨some 8, .convert E.tInt E.tU32 (.tmp 7), E.tU32, "", #[], none⟩,
      ⟨some 9, .binOp .add E.tU32 (.const (.int .u32 1)) (.tmp 8) E.tU32, E.tU32, "", #[], none⟩,
      ⟨some 10, .call { callee := .value (.func E.wUvarint), args := #[(.tmp 5), (.tmp 9)], argTypes := #[E.tBytes, E.tU32] }, E.tBytes, "", #[], none⟩,
      ⟨some 0, .assign (.tmp 10), E.tBytes, "", #[], none⟩]),
    (rg [⟨some 11, .move (.tmp 0), E.tBytes, "", #[], none⟩,
      ⟨some 12, .move (.tmp 1), E.tBytes, "", #[], none⟩,
      ⟨some 13, .call { callee := .builtin .append, args := #[(.tmp 11), (.tmp 12)], argTypes := #[E.tBytes, E.tBytes] }, E.tBytes, "", #[], none⟩,
      ⟨some 4, .assign (.tmp 13), E.tBytes, "", #[], none⟩]),
    .ret])
/-- pub-kmsg/pub/kmsg/inner/kbin.AppendNullableBytes: 2 parameters, 12 temporaries; results #[.tmp 4] -/
def c_wNBytes (E : Env) : Code :=
  (sq [(rg [⟨some 4, .assign (.const (.slice none 0 0)), E.tBytes, "", #[], none⟩]),
    (sq [(rg [⟨some 5, .move (.tmp 1), E.tBytes, "", #[], none⟩,
        ⟨some 6, .binOp .eql E.tBytes (.tmp 5) (.const (.slice none 0 0)) E.tBytes, E.tBool, "", #[], none⟩]),
      (.cond (.tmp 6)
        (sq [(rg [⟨some 7, .move (.tmp 0), E.tBytes, "", #[], none⟩,
            ⟨some 8, .call { callee := .value (.func E.wI32), args := #[(.tmp 7), (.const (.int .i32 (-1)))], argTypes := #[E.tBytes, E.tI32] }, E.tBytes, "", #[], none⟩,
            ⟨some 4, .assign (.tmp 8), E.tBytes, "", #[], none⟩]),
          .ret])
        .skip)]),
    (rg [⟨some 9, .move (.tmp 0), E.tBytes, "", #[], none⟩,
      ⟨some 10, .move (.tmp 1), E.tBytes, "", #[], none⟩,
      ⟨some 11, .call { callee := .value (.func E.wBytes), args := #[(.tmp 9), (.tmp 10)], argTypes := #[E.tBytes, E.tBytes] }, E.tBytes, "", #[], none⟩,
      ⟨some 4, .assign (.tmp 11), E.tBytes, "", #[], none⟩]),
    .ret])
/-- pub-kmsg/pub/kmsg/inner/kbin.AppendCompactNullableBytes: 2 parameters, 12 temporaries; results #[.tmp 4] -/
def c_wCNBytes (E : Env) : Code :=
  (sq [(rg [⟨some 4, .assign (.const (.slice none 0 0)), E.tBytes, "", #[], none⟩]),
    (sq [(rg [⟨some 5, .move (.tmp 1), E.tBytes, "", #[], none⟩,
        ⟨some 6, .binOp .eql E.tBytes (.tmp 5) (.const (.slice none 0 0)) E.tBytes, E.tBool, "", #[], none⟩]),
      (.cond (.tmp 6)
        (sq [(rg [⟨some 7, .move (.tmp 0), E.tBytes, "", #[], none⟩,
            ⟨some 8, .call { callee := .value (.func E.wUvarint), args := #[(.tmp 7), (.const (.int .u32 0))], argTypes := #[E.tBytes, E.tU32] }, E.tBytes, "", #[], none⟩,
            ⟨some 4, .assign (.tmp 8), E.tBytes, "", #[], none⟩]),
          .ret])
        .skip)]),
    (rg [⟨some 9, .move (.tmp 0), E.tBytes, "", #[], none⟩,
      ⟨some 10, .move (.tmp 1), E.tBytes, "", #[], none⟩,
      ⟨some 11, .call { callee := .value (.func E.wCBytes), args := #[(.tmp 9), (.tmp 10)], argTypes := #[E.tBytes, E.tBytes] }, E.tBytes, "", #[], none⟩,
      ⟨some 4, .assign (.tmp 11), E.tBytes, "", #[], none⟩]),
    .ret])
/-- pub-kmsg/pub/kmsg/inner/kbin.AppendArrayLen: 2 parameters, 9 temporaries; results #[.tmp 4] -/
def c_wLen (E : Env) : Code :=
  (sq [(rg [⟨some 4, .assign (.const (.slice none 0 0)), E.tBytes, "", #[], none⟩]),
    (rg [⟨some 5, .move (.tmp 0), E.tBytes, "", #[], none⟩,
      ⟨some 6, .move (.tmp 1), E.tInt, "", #[], none⟩,
      ⟨some 7, .convert E.tInt E.tI32 (.tmp 6), E.tI32, "", #[], none⟩,
      ⟨some 8, .call { callee := .value (.func E.wI32), args := #[(.tmp 5), (.tmp 7)], argTypes := #[E.tBytes, E.tI32] }, E.tBytes, "", #[], none⟩,
      ⟨some 4, .assign (.tmp 8), E.tBytes, "", #[], none⟩]),
    .ret])
/-- pub-kmsg/pub/kmsg/inner/kbin.AppendCompactArrayLen: 2 parameters, 10 temporaries; results #[.tmp 4] -/
def c_wCLen (E : Env) : Code :=
  (sq [(rg [⟨some 4, .assign (.const (.slice none 0 0)), E.tBytes, "", #[], none⟩]),
    (rg [⟨some 5, .move (.tmp 0), E.tBytes, "", #[], none⟩,
      ⟨some 6, .move (.tmp 1), E.tInt, "", #[], none⟩,
      ⟨some 7, .convert E.tInt E.tU32 (.tmp 6), E.tU32, "", #[], none⟩,
      ⟨some 8, .binOp .add E.tU32 (.const (.int .u32 1)) (.tmp 7) E.tU32, E.tU32, "", #[], none⟩,
      ⟨some 9, .call { callee := .value (.func E.wUvarint), args := #[(.tmp 5), (.tmp 8)], argTypes := #[E.tBytes, E.tU32] }, E.tBytes, "", #[], none⟩,
      ⟨some 4, .assign (.tmp 9), E.tBytes, "", #[], none⟩]),
    .ret])
/-- pub-kmsg/pub/kmsg/inner/kbin.AppendNullableArrayLen: 3 parameters, 14 temporaries; results #[.tmp 6] -/
def c_wNLen (E : Env) : Code :=
  (sq [(rg [⟨some 6, .assign (.const (.slice none 0 0)), E.tBytes, "", #[], none⟩]),
    (sq [(rg [⟨some 7, .move (.tmp 2), E.tBool, "", #[], none⟩]),
      (.cond (.tmp 7)
        (sq [(rg [⟨some 8, .move (.tmp 0), E.tBytes, "", #[], none⟩,
            ⟨some 9, .call { callee := .value (.func E.wI32), args := #[(.tmp 8), (.const (.int .i32 (-1)))], argTypes := #[E.tBytes, E.tI32] }, E.tBytes, "", #[], none⟩,
            ⟨some 6, .assign (.tmp 9), E.tBytes, "", #[], none⟩]),
          .ret])
        .skip)]),
    (rg [⟨some 10, .move (.tmp 0), E.tBytes, "", #[], none⟩,
      ⟨some 11, .move (.tmp 1), E.tInt, "", #[], none⟩,
      ⟨some 12, .convert E.tInt E.tI32 (.tmp 11), E.tI32, "", #[], none⟩,
      ⟨some 13, .call { callee := .value (.func E.wI32), args := #[(.tmp 10), (.tmp 12)], argTypes := #[E.tBytes, E.tI32] }, E.tBytes, "", #[], none⟩,
      ⟨some 6, .assign (.tmp 13), E.tBytes, "", #[], none⟩]),
    .ret])
/-- pub-kmsg/pub/kmsg/inner/kbin.AppendCompactNullableArrayLen: 3 parameters, 15 temporaries; results #[.tmp 6] -/
def c_wCNLen (E : Env) : Code :=
  (sq [(rg [⟨some 6, .assign (.const (.slice none 0 0)), E.tBytes, "", #[], none⟩]),
    (sq [(rg [⟨some 7, .move (.tmp 2), E.tBool, "", #[], none⟩]),
      (.cond (.tmp 7)
        (sq [(rg [⟨some 8, .move (.tmp 0), E.tBytes, "", #[], none⟩,
            ⟨some 9, .call { callee := .value (.func E.wUvarint), args := #[(.tmp 8), (.const (.int .u32 0))], argTypes := #[E.tBytes, E.tU32] }, E.tBytes, "", #[], none⟩,
            ⟨some 6, .assign (.tmp 9), E.tBytes, "", #[], none⟩]),
          .ret])
        .skip)]),
    (rg [⟨some 10, .move (.tmp 0), E.tBytes, "", #[], none⟩,
      ⟨some 11, .move (.tmp 1), E.tInt, "", #[], none⟩,
      ⟨some 12, .convert E.tInt E.tU32 (.tmp 11), E.tU32, "", #[], none⟩,
      ⟨some 13, .binOp .add E.tU32 (.const (.int .u32 1)) (.tmp 12) E.tU32, E.tU32, "", #[], none⟩,
      ⟨some 14, .call { callee := .value (.func E.wUvarint), args := #[(.tmp 10), (.tmp 13)], argTypes := #[E.tBytes, E.tU32] }, E.tBytes, "", #[], none⟩,
      ⟨some 6, .assign (.tmp 14), E.tBytes, "", #[], none⟩]),
    .ret])
/-- pub-kmsg/pub/kmsg/inner/kbin.UvarintLen: 1 parameters, 8 temporaries; results #[.tmp 2] -/
def c_uvLen (E : Env) : Code :=
  (sq [(rg [⟨some 2, .assign (.const (.int .i64 0)), E.tInt, "", #[], none⟩]),
    (rg [⟨some 3, .move (.tmp 0), E.tU32, "", #[], none⟩,
      ⟨some 4, .call { callee := .value (.func E.len32), args := #[(.tmp 3)], argTypes := #[E.tU32] }, E.tInt, "", #[], none⟩,
      ⟨some 5, .convert E.tInt E.tU8 (.tmp 4), E.tU8, "", #[], none⟩,
      ⟨some 6, .index E.tStr (.const (.string ⟨#[1, 1, 1, 1, 1, 1, 1, 1, 2, 2, 2, 2, 2, 2, 2, 3, 3, 3, 3, 3, 3, 3, 4, 4, 4, 4, 4, 4, 4, 5, 5, 5, 5, 5, 5, 5, 6, 6, 6, 6, 6, 6, 6, 7, 7, 7, 7, 7, 7, 7, 8, 8, 8, 8, 8, 8, 8, 9, 9, 9, 9, 9, 9, 9, 10, 0, 0, 0, 0, 0, 0, 0, 0, 0, 0, 0, 0, 0, 0, 0, 0, 0, 0, 0, 0, 0, 0, 0, 0, 0, 0, 0, 0, 0, 0, 0, 0, 0, 0, 0, 0, 0, 0, 0, 0, 0, 0, 0, 0, 0, 0, 0, 0, 0, 0, 0, 0, 0, 0, 0, 0, 0, 0, 0, 0, 0, 0, 0, 0, 0, 0, 0, 0, 0, 0, 0, 0, 0, 0, 0, 0, 0, 0, 0, 0, 0, 0, 0, 0, 0, 0, 0, 0, 0, 0, 0, 0, 0, 0, 0, 0, 0, 0, 0, 0, 0, 0, 0, 0, 0, 0, 0, 0, 0, 0, 0, 0, 0, 0, 0, 0, 0, 0, 0, 0, 0, 0, 0, 0, 0, 0, 0, 0, 0, 0, 0, 0, 0, 0, 0, 0, 0, 0, 0, 0, 0, 0, 0, 0, 0, 0, 0, 0, 0, 0, 0, 0, 0, 0, 0, 0, 0, 0, 0, 0, 0, 0, 0, 0, 0, 0, 0, 0, 0, 0, 0, 0, 0, 0, 0, 0, 0, 0, 0, 0, 0, 0, 0, 0, 0, 0, 0, 0, 0, 0, 0]⟩)) (.tmp 5), E.tU8, "", #[], none⟩,
      ⟨some 7, .convert E.tU8 E.tInt (.tmp 6), E.tInt, "", #[], none⟩,
      ⟨some 2, .assign (.tmp 7), E.tInt, "", #[], none⟩]),
    .ret])
/-- math/bits.Len32: 1 parameters, 19 temporaries; results #[.tmp 2] -/
def c_len32 (E : Env) : Code :=
  (sq [(rg [⟨some 2, .assign (.const (.int .i64 0)), E.tInt, "", #[], none⟩]),
    (sq [(rg [⟨some 3, .move (.tmp 0), E.tU32, "", #[], none⟩,
        ⟨some 4, .binOp .geq E.tU32 (.tmp 3) (.const (.int .u32 65536)) E.tU32, E.tBool, "", #[], none⟩]),
      (.cond (.tmp 4)
        (sq [(rg [⟨some 5, .move (.tmp 0), E.tU32, "", #[], none⟩,
            ⟨some 6, .binOp .shr E.tU32 (.tmp 5) (.const (.int .u64 16)) E.tUint, E.tU32, "", #[], none⟩,
            ⟨some 0, .assign (.tmp 6), E.tU32, "", #[], none⟩]),
          (rg [⟨some 2, .assign (.const (.int .i64 16)), E.tInt, "", #[], none⟩])])
        .skip)]),
    (sq [(rg [⟨some 7, .move (.tmp 0), E.tU32, "", #[], none⟩,
        ⟨some 8, .binOp .geq E.tU32 (.tmp 7) (.const (.int .u32 256)) E.tU32, E.tBool, "", #[], none⟩]),
      (.cond (.tmp 8)
        (sq [(rg [⟨some 9, .move (.tmp 0), E.tU32, "", #[], none⟩,
            ⟨some 10, .binOp .shr E.tU32 (.tmp 9) (.const (.int .u64 8)) E.tUint, E.tU32, "", #[], none⟩,
            ⟨some 0, .assign (.tmp 10), E.tU32, "", #[], none⟩]),
          (rg [⟨some 11, .move (.tmp 2), E.tInt, "", #[], none⟩,
            ⟨some 12, .binOp .add E.tInt (.tmp 11) (.const (.int .i64 8)) E.tInt, E.tInt, "", #[], none⟩,
            ⟨some 2, .assign (.tmp 12), E.tInt, "", #[], none⟩])])
        .skip)]),
    (rg [⟨some 13, .move (.tmp 2), E.tInt, "", #[], none⟩,
      ⟨some 14, .move (.tmp 0), E.tU32, "", #[], none⟩,
      ⟨some 15, .convert E.tU32 E.tU8 (.tmp 14), E.tU8, "", #[], none⟩,
      ⟨some 16, .index E.tStr (.const (.string ⟨#[0, 1, 2, 2, 3, 3, 3, 3, 4, 4, 4, 4, 4, 4, 4, 4, 5, 5, 5, 5, 5, 5, 5, 5, 5, 5, 5, 5, 5, 5, 5, 5, 6, 6, 6, 6, 6, 6, 6, 6, 6, 6, 6, 6, 6, 6, 6, 6, 6, 6, 6, 6, 6, 6, 6, 6, 6, 6, 6, 6, 6, 6, 6, 6, 7, 7, 7, 7, 7, 7, 7, 7, 7, 7, 7, 7, 7, 7, 7, 7, 7, 7, 7, 7, 7, 7, 7, 7, 7, 7, 7, 7, 7, 7, 7, 7, 7, 7, 7, 7, 7, 7, 7, 7, 7, 7, 7, 7, 7, 7, 7, 7, 7, 7, 7, 7, 7, 7, 7, 7, 7, 7, 7, 7, 7, 7, 7, 7, 8, 8, 8, 8, 8, 8, 8, 8, 8, 8, 8, 8, 8, 8, 8, 8, 8, 8, 8, 8, 8, 8, 8, 8, 8, 8, 8, 8, 8, 8, 8, 8, 8, 8, 8, 8, 8, 8, 8, 8, 8, 8, 8, 8, 8, 8, 8, 8, 8, 8, 8, 8, 8, 8, 8, 8, 8, 8, 8, 8, 8, 8, 8, 8, 8, 8, 8, 8, 8, 8, 8, 8, 8, 8, 8, 8, 8, 8, 8, 8, 8, 8, 8, 8, 8, 8, 8, 8, 8, 8, 8, 8, 8, 8, 8, 8, 8, 8, 8, 8, 8, 8, 8, 8, 8, 8, 8, 8, 8, 8, 8, 8, 8, 8, 8, 8, 8, 8, 8, 8, 8, 8, 8, 8, 8, 8, 8, 8]⟩)) (.tmp 15), E.tU8, "", #[], none⟩,
      ⟨some 17, .convert E.tU8 E.tInt (.tmp 16), E.tInt, "", #[], none⟩,
      ⟨some 18, .binOp .add E.tInt (.tmp 13) (.tmp 17) E.tInt, E.tInt, "", #[], none⟩,
      ⟨some 2, .assign (.tmp 18), E.tInt, "", #[], none⟩]),
    .ret])
/-- pub-kmsg/pub/kmsg/inner/kbin.AppendUvarint: 2 parameters, 93 temporaries; results #[.tmp 4] -/
def c_wUvarint (E : Env) : Code :=
  (sq [(rg [⟨some 4, .assign (.const (.slice none 0 0)), E.tBytes, "", #[], none⟩]),
    (sq [(rg [⟨some 5, .move (.tmp 1), E.tU32, "", #[], none⟩,
        ⟨some 6, .call { callee := .value (.func E.uvLen), args := #[(.tmp 5)], argTypes := #[E.tU32] }, E.tInt, "", #[], none⟩]),
      (.block 0 (sq [(rg [⟨some 8, .binOp .eql E.tInt (.tmp 6) (.const (.int .i64 5)) E.tInt, E.tBool, "", #[], none⟩,
            ⟨some 7, .assign (.tmp 8), E.tBool, "", #[], none⟩]),
          (.cond (.tmp 7)
            (sq [(rg [⟨some 9, .move (.tmp 0), E.tBytes, "", #[], none⟩,
                ⟨some 10, .move (.tmp 1), E.tU32, "", #[], none⟩,
                ⟨some 11, .binOp .and E.tU32 (.tmp 10) (.const (.int .u32 127)) E.tU32, E.tU32, "", #[], none⟩,
                ⟨some 12, .binOp .or E.tU32 (.tmp 11) (.const (.int .u32 128)) E.tU32, E.tU32, "", #[], none⟩,
                ⟨some 13, .convert E.tU32 E.tU8 (.tmp 12), E.tU8, "", #[], none⟩,
                ⟨some 14, .move (.tmp 1), E.tU32, "", #[], none⟩,
                ⟨some 15, .binOp .shr E.tU32 (.tmp 14) (.const (.int .u64 7)) E.tUint, E.tU32, "", #[], none⟩,
                ⟨some 16, .binOp .and E.tU32 (.tmp 15) (.const (.int .u32 127)) E.tU32, E.tU32, "", #[], none⟩,
                ⟨some 17, .binOp .or E.tU32 (.tmp 16) (.const (.int .u32 128)) E.tU32, E.tU32, "", #[], none⟩,
                ⟨some 18, .convert E.tU32 E.tU8 (.tmp 17), E.tU8, "", #[], none⟩,
                ⟨some 19, .move (.tmp 1), E.tU32, "", #[], none⟩,
                ⟨some 20, .binOp .shr E.tU32 (.tmp 19) (.const (.int .u64 14)) E.tUint, E.tU32, "", #[], none⟩,
                ⟨some 21, .binOp .and E.tU32 (.tmp 20) (.const (.int .u32 127)) E.tU32, E.tU32, "", #[], none⟩,
                ⟨some 22, .binOp .or E.tU32 (.tmp 21) (.const (.int .u32 128)) E.tU32, E.tU32, "", #[], none⟩,
                ⟨some 23, .convert E.tU32 E.tU8 (.tmp 22), E.tU8, "", #[], none⟩,
                ⟨some 24, .move (.tmp 1), E.tU32, "", #[], none⟩,
                ⟨some 25, .binOp .shr E.tU32 (.tmp 24) (.const (.int .u64 21)) E.tUint, E.tU32, "", #[], none⟩,
                ⟨some 26, .binOp .and E.tU32 (.tmp 25) (.const (.int .u32 127)) E.tU32, E.tU32, "", #[], none⟩,
                ⟨some 27, .binOp .or E.tU32 (.tmp 26) (.const (.int .u32 128)) E.tU32, E.tU32, "", #[], none⟩,
                ⟨some 28, .convert E.tU32 E.tU8 (.tmp 27), E.tU8, "", #[], none⟩,
                ⟨some 29, .move (.tmp 1), E.tU32, "", #[], none⟩,
                ⟨some 30, .binOp .shr E.tU32 (.tmp 29) (.const (.int .u64 28)) E.tUint, E.tU32, "", #[], none⟩,
                ⟨some 31, .convert E.tU32 E.tU8 (.tmp 30), E.tU8, "", #[], none⟩,
                ⟨some 32, .buildSlice E.tBytes 5 #[(0, (.tmp 13)), (1, (.tmp 18)), (2, (.tmp 23)), (3, (.tmp 28)), (4, (.tmp 31))], E.tBytes, "", #[], none⟩,
                ⟨some 33, .call { callee := .builtin .append, args := #[(.tmp 9), (.tmp 32)], argTypes := #[E.tBytes, E.tBytes] }, E.tBytes, "", #[], none⟩,
                ⟨some 4, .assign (.tmp 33), E.tBytes, "", #[], none⟩]),
              .ret])
            (sq [(rg [⟨some 35, .binOp .eql E.tInt (.tmp 6) (.const (.int .i64 4)) E.tInt, E.tBool, "", #[], none⟩,
                ⟨some 34, .assign (.tmp 35), E.tBool, "", #[], none⟩]),
              (.cond (.tmp 34)
                (sq [(rg [⟨some 36, .move (.tmp 0), E.tBytes, "", #[], none⟩,
                    ⟨some 37, .move (.tmp 1), E.tU32, "", #[], none⟩,
                    ⟨some 38, .binOp .and E.tU32 (.tmp 37) (.const (.int .u32 127)) E.tU32, E.tU32, "", #[], none⟩,
                    ⟨some 39, .binOp .or E.tU32 (.tmp 38) (.const (.int .u32 128)) E.tU32, E.tU32, "", #[], none⟩,
                    ⟨some 40, .convert E.tU32 E.tU8 (.tmp 39), E.tU8, "", #[], none⟩,
                    ⟨some 41, .move (.tmp 1), E.tU32, "", #[], none⟩,
                    ⟨some 42, .binOp .shr E.tU32 (.tmp 41) (.const (.int .u64 7)) E.tUint, E.tU32, "", #[], none⟩,
                    ⟨some 43, .binOp .and E.tU32 (.tmp 42) (.const (.int .u32 127)) E.tU32, E.tU32, "", #[], none⟩,
                    ⟨some 44, .binOp .or E.tU32 (.tmp 43) (.const (.int .u32 128)) E.tU32, E.tU32, "", #[], none⟩,
                    ⟨some 45, .convert E.tU32 E.tU8 (.tmp 44), E.tU8, "", #[], none⟩,
                    ⟨some 46, .move (.tmp 1), E.tU32, "", #[], none⟩,
                    ⟨some 47, .binOp .shr E.tU32 (.tmp 46) (.const (.int .u64 14)) E.tUint, E.tU32, "", #[], none⟩,
                    ⟨some 48, .binOp .and E.tU32 (.tmp 47) (.const (.int .u32 127)) E.tU32, E.tU32, "", #[], none⟩,
                    ⟨some 49, .binOp .or E.tU32 (.tmp 48) (.const (.int .u32 128)) E.tU32, E.tU32, "", #[], none⟩,
                    ⟨some 50, .convert E.tU32 E.tU8 (.tmp 49), E.tU8, "", #[], none⟩,
                    ⟨some 51, .move (.tmp 1), E.tU32, "", #[], none⟩,
                    ⟨some 52, .binOp .shr E.tU32 (.tmp 51) (.const (.int .u64 21)) E.tUint, E.tU32, "", #[], none⟩,
                    ⟨some 53, .convert E.tU32 E.tU8 (.tmp 52), E.tU8, "", #[], none⟩,
                    ⟨some 54, .buildSlice E.tBytes 4 #[(0, (.tmp 40)), (1, (.tmp 45)), (2, (.tmp 50)), (3, (.tmp 53))], E.tBytes, "", #[], none⟩,
                    ⟨some 55, .call { callee := .builtin .append, args := #[(.tmp 36), (.tmp 54)], argTypes := #[E.tBytes, E.tBytes] }, E.tBytes, "", #[], none⟩,
                    ⟨some 4, .assign (.tmp 55), E.tBytes, "", #[], none⟩]),
                  .ret])
                (sq [(rg [⟨some 57, .binOp .eql E.tInt (.tmp 6) (.const (.int .i64 3)) E.tInt, E.tBool, "", #[], none⟩,
                    ⟨some 56, .assign (.tmp 57), E.tBool, "", #[], none⟩]),
                  (.cond (.tmp 56)
                    (sq [(rg [⟨some 58, .move (.tmp 0), E.tBytes, "", #[], none⟩,
                        ⟨some 59, .move (.tmp 1), E.tU32, "", #[], none⟩,
                        ⟨some 60, .binOp .and E.tU32 (.tmp 59) (.const (.int .u32 127)) E.tU32, E.tU32, "", #[], none⟩,
                        ⟨some 61, .binOp .or E.tU32 (.tmp 60) (.const (.int .u32 128)) E.tU32, E.tU32, "", #[], none⟩,
                        ⟨some 62, .convert E.tU32 E.tU8 (.tmp 61), E.tU8, "", #[], none⟩,
                        ⟨some 63, .move (.tmp 1), E.tU32, "", #[], none⟩,
                        ⟨some 64, .binOp .shr E.tU32 (.tmp 63) (.const (.int .u64 7)) E.tUint, E.tU32, "", #[], none⟩,
                        ⟨some 65, .binOp .and E.tU32 (.tmp 64) (.const (.int .u32 127)) E.tU32, E.tU32, "", #[], none⟩,
                        ⟨some 66, .binOp .or E.tU32 (.tmp 65) (.const (.int .u32 128)) E.tU32, E.tU32, "", #[], none⟩,
                        ⟨some 67, .convert E.tU32 E.tU8 (.tmp 66), E.tU8, "", #[], none⟩,
                        ⟨some 68, .move (.tmp 1), E.tU32, "", #[], none⟩,
                        ⟨some 69, .binOp .shr E.tU32 (.tmp 68) (.const (.int .u64 14)) E.tUint, E.tU32, "", #[], none⟩,
                        ⟨some 70, .convert E.tU32 E.tU8 (.tmp 69), E.tU8, "", #[], none⟩,
                        ⟨some 71, .buildSlice E.tBytes 3 #[(0, (.tmp 62)), (1, (.tmp 67)), (2, (.tmp 70))], E.tBytes, "", #[], none⟩,
                        ⟨some 72, .call { callee := .builtin .append, args := #[(.tmp 58), (.tmp 71)], argTypes := #[E.tBytes, E.tBytes] }, E.tBytes, "", #[], none⟩,
                        ⟨some 4, .assign (.tmp 72), E.tBytes, "", #[], none⟩]),
                      .ret])
                    (sq [(rg [⟨some 74, .binOp .eql E.tInt (.tmp 6) (.const (.int .i64 2)) E.tInt, E.tBool, "", #[], none⟩,
                        ⟨some 73, .assign (.tmp 74), E.tBool, "", #[], none⟩]),
                      (.cond (.tmp 73)
                        (sq [(rg [⟨some 75, .move (.tmp 0), E.tBytes, "", #[], none⟩,
                            ⟨some 76, .move (.tmp 1), E.tU32, "", #[], none⟩,
                            ⟨some 77, .binOp .and E.tU32 (.tmp 76) (.const (.int .u32 127)) E.tU32, E.tU32, "", #[], none⟩,
                            ⟨some 78, .binOp .or E.tU32 (.tmp 77) (.const (.int .u32 128)) E.tU32, E.tU32, "", #[], none⟩,
                            ⟨some 79, .convert E.tU32 E.tU8 (.tmp 78), E.tU8, "", #[], none⟩,
                            ⟨some 80, .move (.tmp 1), E.tU32, "", #[], none⟩,
                            ⟨some 81, .binOp .shr E.tU32 (.tmp 80) (.const (.int .u64 7)) E.tUint, E.tU32, "", #[], none⟩,
                            ⟨some 82, .convert E.tU32 E.tU8 (.tmp 81), E.tU8, "", #[], none⟩,
                            ⟨some 83, .buildSlice E.tBytes 2 #[(0, (.tmp 79)), (1, (.tmp 82))], E.tBytes, "", #[], none⟩,
                            ⟨some 84, .call { callee := .builtin .append, args := #[(.tmp 75), (.tmp 83)], argTypes := #[E.tBytes, E.tBytes] }, E.tBytes, "", #[], none⟩,
                            ⟨some 4, .assign (.tmp 84), E.tBytes, "", #[], none⟩]),
                          .ret])
                        (sq [(rg [⟨some 86, .binOp .eql E.tInt (.tmp 6) (.const (.int .i64 1)) E.tInt, E.tBool, "", #[], none⟩,
                            ⟨some 85, .assign (.tmp 86), E.tBool, "", #[], none⟩]),
                          (.cond (.tmp 85)
                            (sq [(rg [⟨some 87, .move (.tmp 0), E.tBytes, "", #[], none⟩,
                                ⟨some 88, .move (.tmp 1), E.tU32, "", #[], none⟩,
                                ⟨some 89, .convert E.tU32 E.tU8 (.tmp 88), E.tU8, "", #[], none⟩,
                                ⟨some 90, .buildSlice E.tBytes 1 #[(0, (.tmp 89))], E.tBytes, "", #[], none⟩,
                                ⟨some 91, .call { callee := .builtin .append, args := #[(.tmp 87), (.tmp 90)], argTypes := #[E.tBytes, E.tBytes] }, E.tBytes, "", #[], none⟩,
                                ⟨some 4, .assign (.tmp 91), E.tBytes, "", #[], none⟩]),
                              .ret])
                            .skip)]))]))]))]))]))]),
    (rg [⟨some 92, .move (.tmp 0), E.tBytes, "", #[], none⟩,
      ⟨some 4, .assign (.tmp 92), E.tBytes, "", #[], none⟩]),
    .ret])
/-- (*pub-kmsg/pub/kmsg.Tags).Len: 1 parameters, 8 temporaries; results #[.tmp 2] -/
def c_tLen (E : Env) : Code :=
  (sq [(rg [⟨some 2, .assign (.const (.int .i64 0)), E.tInt, "", #[], none⟩]),
    (rg [⟨some 3, .move (.tmp 0), E.tPTags, "", #[], none⟩,
      ⟨some 4, .nilCheck (.tmp 3), 0, "", #[], none⟩,
      ⟨some 5, .fieldAddr E.tTags (.tmp 4) 0, 0, "", #[], none⟩,
      ⟨some 6, .load E.tTagMap (.tmp 5), E.tTagMap, "", #[], none⟩,
      ⟨some 7, .call { callee := .builtin .len, args := #[(.tmp 6)], argTypes := #[E.tTagMap] }, E.tInt, "", #[], none⟩,
      ⟨some 2, .assign (.tmp 7), E.tInt, "", #[], none⟩]),
    .ret])
/-- (*pub-kmsg/pub/kmsg.Tags).AppendEach: 2 parameters, 9 temporaries; results #[.tmp 4] -/
def c_tEach (E : Env) : Code :=
  (sq [(rg [⟨some 3, .box E.tBytes (.tmp 1), 0, "", #[], none⟩,
      ⟨some 4, .assign (.const (.slice none 0 0)), E.tBytes, "", #[], none⟩]),
    (rg [⟨some 5, .move (.tmp 0), E.tPTags, "", #[], none⟩,
      ⟨some 6, .makeFunc (.func E.gEach1) #[] #[(.tmp 3)], E.tFnTag, "", #[], none⟩,
      ⟨some 7, .call { callee := .value (.func E.gAll), args := #[(.tmp 5), (.tmp 6)], argTypes := #[E.tPTags, E.tFnTag] }, 0, "", #[], none⟩]),
    (rg [⟨some 8, .load E.tBytes (.tmp 3), E.tBytes, "", #[], none⟩,
      ⟨some 4, .assign (.tmp 8), E.tBytes, "", #[], none⟩]),
    .ret])
/-- (*pub-kmsg/pub/kmsg.Tags).Each: 2 parameters, 53 temporaries; results #[] -/
def c_gAll (E : Env) : Code :=
  (sq [(sq [(rg [⟨some 8, .move (.tmp 0), E.tPTags, "", #[], none⟩,
        ⟨some 9, .nilCheck (.tmp 8), 0, "", #[], none⟩,
        ⟨some 10, .fieldAddr E.tTags (.tmp 9) 0, 0, "", #[], none⟩,
        ⟨some 11, .load E.tTagMap (.tmp 10), E.tTagMap, "", #[], none⟩,
        ⟨some 12, .call { callee := .builtin .len, args := #[(.tmp 11)], argTypes := #[E.tTagMap] }, E.tInt, "", #[], none⟩,
        ⟨some 13, .binOp .eql E.tInt (.tmp 12) (.const (.int .i64 0)) E.tInt, E.tBool, "", #[], none⟩]),
      (.cond (.tmp 13)
        .ret
        .skip)]),
    (rg [⟨some 14, .move (.tmp 0), E.tPTags, "", #[], none⟩,
      ⟨some 15, .nilCheck (.tmp 14), 0, "", #[], none⟩,
      ⟨some 16, .fieldAddr E.tTags (.tmp 15) 0, 0, "", #[], none⟩,
      ⟨some 17, .load E.tTagMap (.tmp 16), E.tTagMap, "", #[], none⟩,
      ⟨some 18, .call { callee := .builtin .len, args := #[(.tmp 17)], argTypes := #[E.tTagMap] }, E.tInt, "", #[], none⟩,
      ⟨some 19, .makeSlice E.tU32s (.const (.int .i64 0)) (.tmp 18), E.tU32s, "", #[], none⟩,
      ⟨some 4, .alloc E.tU32s, 0, "", #[], none⟩,
      ⟨none, .store E.tU32s (.tmp 4) (.tmp 19), 0, "", #[], none⟩]),
    (sq [(rg [⟨some 20, .move (.tmp 0), E.tPTags, "", #[], none⟩,
        ⟨some 21, .nilCheck (.tmp 20), 0, "", #[], none⟩,
        ⟨some 22, .fieldAddr E.tTags (.tmp 21) 0, 0, "", #[], none⟩,
        ⟨some 23, .load E.tTagMap (.tmp 22), E.tTagMap, "", #[], none⟩,
        ⟨some 24, .range E.tTagMap (.tmp 23), 0, "", #[], none⟩]),
      (.block 0 (.loop (sq [(rg [⟨some 25, .next (.tmp 24) false, 0, "", #[], none⟩,
              ⟨some 26, .extract (.tmp 25) 0, E.tBool, "", #[], none⟩]),
            (.cond (.tmp 26)
              .skip
              (.exit 0)),
            (.block 1 (sq [(rg [⟨some 27, .entry (.tmp 24), 0, "", #[], none⟩,
                  ⟨some 28, .extract (.tmp 27) 0, E.tU32, "", #[], none⟩,
                  ⟨some 5, .assign (.tmp 28), E.tU32, "", #[], none⟩]),
                (rg [⟨some 29, .load E.tU32s (.tmp 4), E.tU32s, "", #[], none⟩,
                  ⟨some 30, .move (.tmp 5), E.tU32, "", #[], none⟩,
                  ⟨some 31, .buildSlice E.tU32s 1 #[(0, (.tmp 30))], E.tU32s, "", #[], none⟩,
                  ⟨some 32, .call { callee := .builtin .append, args := #[(.tmp 29), (.tmp 31)], argTypes := #[E.tU32s, E.tU32s] }, E.tU32s, "", #[], none⟩,
                  ⟨none, .store E.tU32s (.tmp 4) (.tmp 32), 0, "", #[], none⟩])]))])))]),
    (rg [⟨some 33, .load E.tU32s (.tmp 4), E.tU32s, "", #[], none⟩,
      ⟨some 34, .makeInterface E.tU32s (.tmp 33), E.tAny, "", #[], none⟩,
      ⟨some 35, .makeFunc (.func E.gAll1) #[] #[(.tmp 4)], E.tFnLess, "", #[], none⟩,
      ⟨some 36, .call { callee := .value (.func E.sortSlice), args := #[(.tmp 34), (.tmp 35)], argTypes := #[E.tAny, E.tFnLess] }, 0, "", #[], none⟩]),
    (rg [⟨some 37, .load E.tU32s (.tmp 4), E.tU32s, "", #[], none⟩,
      ⟨some 38, .call { callee := .builtin .len, args := #[(.tmp 37)], argTypes := #[E.tU32s] }, E.tInt, "", #[], none⟩,
      ⟨some 39, .move (.const (.int .i64 0)), E.tInt, "", #[], none⟩]),
    (.block 2 (.loop (sq [(rg [⟨some 40, .binOp .lss E.tInt (.tmp 39) (.tmp 38) E.tInt, 0, "", #[], none⟩]),
          (.cond (.tmp 40)
            .skip
            (.exit 2)),
          (.block 3 (sq [(rg [⟨some 41, .indexAddr E.tU32s (.tmp 37) (.tmp 39), 0, "", #[], none⟩,
                ⟨some 42, .load E.tU32 (.tmp 41), E.tU32, "", #[], none⟩,
                ⟨some 7, .assign (.tmp 42), E.tU32, "", #[], none⟩]),
              (rg [⟨some 43, .move (.tmp 1), E.tFnTag, "", #[], none⟩,
                ⟨some 44, .move (.tmp 7), E.tU32, "", #[], none⟩,
                ⟨some 45, .move (.tmp 0), E.tPTags, "", #[], none⟩,
                ⟨some 46, .nilCheck (.tmp 45), 0, "", #[], none⟩,
                ⟨some 47, .fieldAddr E.tTags (.tmp 46) 0, 0, "", #[], none⟩,
                ⟨some 48, .load E.tTagMap (.tmp 47), E.tTagMap, "", #[], none⟩,
                ⟨some 49, .move (.tmp 7), E.tU32, "", #[], none⟩,
                ⟨some 50, .lookup E.tTagMap (.tmp 48) (.tmp 49) false, E.tBytes, "", #[], none⟩,
                ⟨some 51, .call { callee := .value (.tmp 43), args := #[(.tmp 44), (.tmp 50)], argTypes := #[E.tU32, E.tBytes] }, 0, "", #[], none⟩])])),
          (rg [⟨some 52, .binOp .add E.tInt (.tmp 39) (.const (.int .i64 1)) E.tInt, E.tInt, "", #[], none⟩,
            ⟨some 39, .move (.tmp 52), E.tInt, "", #[], none⟩])])))])
/-- (*pub-kmsg/pub/kmsg.Tags).AppendEach$1: 2 parameters, 16 temporaries; results #[] -/
def c_gEach1 (E : Env) : Code :=
  (sq [(rg [⟨some 5, .load E.tBytes (.tmp 2), E.tBytes, "", #[], none⟩,
      ⟨some 6, .move (.tmp 0), E.tU32, "", #[], none⟩,
      ⟨some 7, .call { callee := .value (.func E.wUvarint), args := #[(.tmp 5), (.tmp 6)], argTypes := #[E.tBytes, E.tU32] }, E.tBytes, "", #[], none⟩,
      ⟨none, .store E.tBytes (.tmp 2) (.tmp 7), 0, "", #[], none⟩]),
    (rg [⟨some 8, .load E.tBytes (.tmp 2), E.tBytes, "", #[], none⟩,
      ⟨some 9, .move (.tmp 1), E.tBytes, "", #[], none⟩,
      ⟨some 10, .call { callee := .builtin .len, args := #[(.tmp 9)], argTypes := #[E.tBytes] }, E.tInt, "", #[], none⟩,
      ⟨some 11, .convert E.tInt E.tU32 (.tmp 10), E.tU32, "", #[], none⟩,
      ⟨some 12, .call { callee := .value (.func E.wUvarint), args := #[(.tmp 8), (.tmp 11)], argTypes := #[E.tBytes, E.tU32] }, E.tBytes, "", #[], none⟩,
      ⟨none, .store E.tBytes (.tmp 2) (.tmp 12), 0, "", #[], none⟩]),
    (rg [⟨some 13, .load E.tBytes (.tmp 2), E.tBytes, "", #[], none⟩,
      ⟨some 14, .move (.tmp 1), E.tBytes, "", #[], none⟩,
      ⟨some 15, .call { callee := .builtin .append, args := #[(.tmp 13), (.tmp 14)], argTypes := #[E.tBytes, E.tBytes] }, E.tBytes, "", #[], none⟩,
      ⟨none, .store E.tBytes (.tmp 2) (.tmp 15), 0, "", #[], none⟩])])
/-- (*pub-kmsg/pub/kmsg.Tags).Each$1: 2 parameters, 15 temporaries; results #[.tmp 5] -/
def c_gAll1 (E : Env) : Code :=
  (sq [(rg [⟨some 5, .assign (.const (.bool false)), E.tBool, "", #[], none⟩]),
    (rgd [⟨some 6, .load E.tU32s (.tmp 2), E.tU32s, "", #[], none⟩,
      ⟨some 7, .move (.tmp 0), E.tInt, "", #[], none⟩,
      ⟨some 8, .indexAddr E.tU32s (.tmp 6) (.tmp 7), 0, "", #[⟨0, .data⟩, ⟨1, .data⟩], none⟩,
      ⟨some 9, .load E.tU32 (.tmp 8), E.tU32, "", #[⟨2, .data⟩], none⟩,
      ⟨some 10, .load E.tU32s (.tmp 2), E.tU32s, "", #[], none⟩,
      ⟨some 11, .move (.tmp 1), E.tInt, "", #[], none⟩,
      ⟨some 12, .indexAddr E.tU32s (.tmp 10) (.tmp 11), 0, "", #[⟨4, .data⟩, ⟨5, .data⟩], none⟩,
      ⟨some 13, .load E.tU32 (.tmp 12), E.tU32, "", #[⟨6, .data⟩], none⟩,
      ⟨some 14, .binOp .lss E.tU32 (.tmp 9) (.tmp 13) E.tU32, E.tBool, "", #[⟨3, .data⟩, ⟨7, .data⟩], none⟩,
      ⟨some 5, .assign (.tmp 14), E.tBool, "", #[⟨8, .data⟩, ⟨0, .phase⟩, ⟨1, .phase⟩, ⟨2, .phase⟩, ⟨3, .phase⟩, ⟨4, .phase⟩, ⟨5, .phase⟩, ⟨6, .phase⟩, ⟨7, .phase⟩, ⟨8, .phase⟩], none⟩]),
    .ret])
end Go.Km
