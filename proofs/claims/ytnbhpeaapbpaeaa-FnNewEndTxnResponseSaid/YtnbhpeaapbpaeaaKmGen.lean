/- The shapes of kmsg's messages, and the code that its generator writes for them. -/
import Derived.Test.YtnbhpeaapbpaeaaKmOps2
namespace Go.Km
open Go

inductive Scal where
  | bool | i8 | i16 | i32 | i64 | u16 | f64
  deriving DecidableEq, Repr

/-- The versions that have a field. -/
inductive Ver where
  | all | ge (n : Nat) | btw (n m : Nat)
  deriving DecidableEq, Repr

mutual
/-- The type of a field. TS: a slice type; TP, TU: a pointer to a struct and the struct's own type; FD: its method Default. -/
inductive Ty where
  | scal (s : Scal) (df : Int)
  | named (s : Scal) (T : TypeId) (df : Int)
  | uuid
  | text
  | ntext
  | ntextFrom (N : Nat)
  | bytes
  | nbytes
  | list (TS : TypeId) (null : Option Nat) (e : Ty)
  | struct (TP TU : TypeId) (FD : FuncId) (fs : Flds)
/-- The fields of a struct, one behind the other: the versions, the type; last: has it unknown tags? -/
inductive Flds where
  | nil (tags : Bool)
  | cons (v : Ver) (t : Ty) (r : Flds)
end

/-- The numbers of types and functions in a program. -/
structure Env where
  tErr : TypeId := 0
  tI8 : TypeId := 0
  tI16 : TypeId := 0
  tI32 : TypeId := 0
  tI64 : TypeId := 0
  tU8 : TypeId := 0
  tU16 : TypeId := 0
  tU32 : TypeId := 0
  tU64 : TypeId := 0
  tBool : TypeId := 0
  tF64 : TypeId := 0
  tInt : TypeId := 0
  tStr : TypeId := 0
  tPStr : TypeId := 0
  tBytes : TypeId := 0
  tUuid : TypeId := 0
  tTags : TypeId := 0
  tPTags : TypeId := 0
  tRd : TypeId := 0
  tPRd : TypeId := 0
  rI8 : FuncId := 0
  rI16 : FuncId := 0
  rI32 : FuncId := 0
  rI64 : FuncId := 0
  rU16 : FuncId := 0
  rBool : FuncId := 0
  rF64 : FuncId := 0
  rUuid : FuncId := 0
  rStr : FuncId := 0
  rUStr : FuncId := 0
  rCStr : FuncId := 0
  rUCStr : FuncId := 0
  rNStr : FuncId := 0
  rUNStr : FuncId := 0
  rCNStr : FuncId := 0
  rUCNStr : FuncId := 0
  rBytes : FuncId := 0
  rCBytes : FuncId := 0
  rNBytes : FuncId := 0
  rCNBytes : FuncId := 0
  rLen : FuncId := 0
  rCLen : FuncId := 0
  rOk : FuncId := 0
  rComplete : FuncId := 0
  rTags : FuncId := 0
  wI8 : FuncId := 0
  wI16 : FuncId := 0
  wI32 : FuncId := 0
  wI64 : FuncId := 0
  wU16 : FuncId := 0
  wBool : FuncId := 0
  wF64 : FuncId := 0
  wUuid : FuncId := 0
  wStr : FuncId := 0
  wCStr : FuncId := 0
  wNStr : FuncId := 0
  wCNStr : FuncId := 0
  wBytes : FuncId := 0
  wCBytes : FuncId := 0
  wNBytes : FuncId := 0
  wCNBytes : FuncId := 0
  wLen : FuncId := 0
  wCLen : FuncId := 0
  wNLen : FuncId := 0
  wCNLen : FuncId := 0
  wUvarint : FuncId := 0
  tLen : FuncId := 0
  tEach : FuncId := 0
  tUint : TypeId := 0
  tFld : TypeId := 0
  tFlds : TypeId := 0
  tTree : TypeId := 0
  tTrees : TypeId := 0
  tUnk : TypeId := 0
  tUnks : TypeId := 0
  tMsg : TypeId := 0
  wU32 : FuncId := 0
  wU64 : FuncId := 0
  uvLen : FuncId := 0
  len32 : FuncId := 0
  sHas : FuncId := 0
  sNull : FuncId := 0
  sWhole : FuncId := 0
  sThings : FuncId := 0
  sAt : FuncId := 0
  sUvar : FuncId := 0
  sFixed : FuncId := 0
  sWidth : FuncId := 0
  sCounted : FuncId := 0
  sValue : FuncId := 0
  sField : FuncId := 0
  sUsual : FuncId := 0
  sKnown : FuncId := 0
  sUnknown : FuncId := 0
  sPart : FuncId := 0
  sDefault : FuncId := 0
  sWrite : FuncId := 0
  sKept : FuncId := 0
  sSame : FuncId := 0
  lVersion : FuncId := 0
  tTagMap : TypeId := 0
  tU32s : TypeId := 0
  tFnTag : TypeId := 0
  tFnLess : TypeId := 0
  tAny : TypeId := 0
  gAll : FuncId := 0
  gEach1 : FuncId := 0
  gAll1 : FuncId := 0
  gSet : FuncId := 0
  sortSlice : FuncId := 0
  rUvar : FuncId := 0
  rSpan : FuncId := 0
  rU64 : FuncId := 0
  kUv : FuncId := 0
  kUs : FuncId := 0
  bU16 : FuncId := 0
  bU32 : FuncId := 0
  bU64 : FuncId := 0
  f64b : FuncId := 0
  f64f : FuncId := 0
  tBE : TypeId := 0
  tUvR : TypeId := 0
  vErr : Nat := 0
  vBE : Nat := 0

def Env.tScal (E : Env) : Scal → TypeId
  | .bool => E.tBool | .i8 => E.tI8 | .i16 => E.tI16 | .i32 => E.tI32 | .i64 => E.tI64 | .u16 => E.tU16 | .f64 => E.tF64
def Env.rScal (E : Env) : Scal → FuncId
  | .bool => E.rBool | .i8 => E.rI8 | .i16 => E.rI16 | .i32 => E.rI32 | .i64 => E.rI64 | .u16 => E.rU16 | .f64 => E.rF64
def Env.wScal (E : Env) : Scal → FuncId
  | .bool => E.wBool | .i8 => E.wI8 | .i16 => E.wI16 | .i32 => E.wI32 | .i64 => E.wI64 | .u16 => E.wU16 | .f64 => E.wF64

/-- The Go type of a field. -/
def Ty.T (E : Env) : Ty → TypeId
  | .scal s _ => E.tScal s
  | .named _ T _ => T
  | .uuid => E.tUuid
  | .text => E.tStr
  | .ntext | .ntextFrom _ => E.tPStr
  | .bytes | .nbytes => E.tBytes
  | .list TS _ _ => TS
  | .struct TP _ _ _ => TP

/-! ## code -/
def sq : List Code → Code
  | [] => .skip
  | [c] => c
  | c :: d :: r => .seq c (sq (d :: r))
def rg (l : List Oper) : Code := .region 0 l.toArray false
def i16 (n : Nat) : Operand := .const (.int .i16 n)
def i32 (n : Int) : Operand := .const (.int .i32 n)
def i64 (n : Int) : Operand := .const (.int .i64 n)

/-- What a function's code knows: the slots of the version and of isFlexible (if there is one), of the struct. -/
structure Cx where
  vs : Nat
  fl : Option Nat

/-- 'if version >= n', 'if version >= n && version <= m'. -/
def ifVer (E : Env) (x : Cx) (v : Ver) (t : Tmp) (body : Code) : Code :=
  match v with
  | .all => body
  | .ge n => sq [rg [oMove t (.tmp x.vs) E.tI16, oBin (t + 1) .geq E.tI16 (.tmp t) (i16 n) E.tI16 E.tBool], .cond (.tmp (t + 1)) body .skip]
  | .btw n m => sq [rg [oMove t (.tmp x.vs) E.tI16, oBin (t + 1) .geq E.tI16 (.tmp t) (i16 n) E.tI16 E.tBool, oMove (t + 2) (.tmp (t + 1)) E.tBool,
      ⟨some (t + 3), .move (.tmp x.vs), E.tI16, "", #[], some (2, true)⟩,
      ⟨some (t + 4), .binOp .leq E.tI16 (.tmp (t + 3)) (i16 m) E.tI16, E.tBool, "", #[], some (2, true)⟩,
      ⟨some (t + 5), .pick (.tmp (t + 2)) (.tmp (t + 4)) (.const (.bool false)), E.tBool, "", #[], none⟩], .cond (.tmp (t + 5)) body .skip]
def Ver.nt : Ver → Nat
  | .all => 0 | .ge _ => 2 | .btw _ _ => 6

/-! ### writing -/
/-- 'x := s.F' -/
def wLoad (TP TU T : TypeId) (x s f t : Nat) : Code :=
  rg [oMove t (.tmp s) TP, oNil (t + 1) (.tmp t), oField (t + 2) TU (.tmp (t + 1)) f, oLoad (t + 3) T (.tmp (t + 2)), oAssign x (.tmp (t + 3)) T]
/-- 'x := s.F', an array: the variable lies in memory. -/
def wLoadArr (TP TU T : TypeId) (x s f t : Nat) : Code :=
  rg [oMove t (.tmp s) TP, oNil (t + 1) (.tmp t), oField (t + 2) TU (.tmp (t + 1)) f, oLoad (t + 3) T (.tmp (t + 2)), oAlloc x T, oStore T (.tmp x) (.tmp (t + 3))]
/-- 'dst = F(dst, x)', x an array -/
def wAppArr (E : Env) (F : FuncId) (T : TypeId) (x t : Nat) : Code :=
  rg [oMove t (.tmp 1) E.tBytes, oLoad (t + 1) T (.tmp x), oCall (some (t + 2)) F #[.tmp t, .tmp (t + 1)] #[E.tBytes, T] E.tBytes, oAssign 1 (.tmp (t + 2)) E.tBytes]
/-- 'dst = F(dst, x)' -/
def wApp (E : Env) (F : FuncId) (T : TypeId) (x t : Nat) : Code :=
  rg [oMove t (.tmp 1) E.tBytes, oMove (t + 1) (.tmp x) T, oCall (some (t + 2)) F #[.tmp t, .tmp (t + 1)] #[E.tBytes, T] E.tBytes, oAssign 1 (.tmp (t + 2)) E.tBytes]
/-- 'if isFlexible { dst = FC(dst, x) } else { dst = F(dst, x) }' -/
def wFlex (E : Env) (x : Cx) (t : Tmp) (n : Nat) (A B : Tmp → Code) : Code :=
  match x.fl with
  | none => B t
  | some fl => sq [rg [oMove t (.tmp fl) E.tBool], .cond (.tmp t) (A (t + 1)) (B (t + 1 + n))]
def Cx.nt (x : Cx) (n : Nat) : Nat := match x.fl with | none => n | some _ => 1 + n + n
def wLens (E : Env) (F : FuncId) (T : TypeId) (x t : Nat) : Code :=
  rg [oMove t (.tmp 1) E.tBytes, oMove (t + 1) (.tmp x) T, oBuiltin (t + 2) .len #[.tmp (t + 1)] #[T] E.tInt, oCall (some (t + 3)) F #[.tmp t, .tmp (t + 2)] #[E.tBytes, E.tInt] E.tBytes, oAssign 1 (.tmp (t + 3)) E.tBytes]
def wNLens (E : Env) (F : FuncId) (T : TypeId) (x t : Nat) : Code :=
  rg [oMove t (.tmp 1) E.tBytes, oMove (t + 1) (.tmp x) T, oBuiltin (t + 2) .len #[.tmp (t + 1)] #[T] E.tInt, oMove (t + 3) (.tmp x) T, oBin (t + 4) .eql T (.tmp (t + 3)) (.const (.slice none 0 0)) T E.tBool,
    oCall (some (t + 5)) F #[.tmp t, .tmp (t + 2), .tmp (t + 4)] #[E.tBytes, E.tInt, E.tBool] E.tBytes, oAssign 1 (.tmp (t + 5)) E.tBytes]
/-- 'for i := range x { body }' -/
def wLoop (E : Env) (T : TypeId) (x t b post : Nat) (body : Code) : Code :=
  sq [rg [oMove t (.tmp x) T, oBuiltin (t + 1) .len #[.tmp t] #[T] E.tInt, oMove (t + 2) (i64 0) E.tInt],
   .block b (.loop (sq [rg [oBin (t + 3) .lss E.tInt (.tmp (t + 2)) (.tmp (t + 1)) E.tInt 0], .cond (.tmp (t + 3)) .skip (.exit b), .block (b + 1) body,
     rg [oBin post .add E.tInt (.tmp (t + 2)) (i64 1) E.tInt E.tInt, oMove (t + 2) (.tmp post) E.tInt]]))]

/-- Is it an array? -/
def Ty.arr : Ty → Bool
  | .uuid => true
  | _ => false
/-- Of a struct: its pointer type. -/
def Ty.tp : Ty → Option TypeId
  | .struct TP _ _ _ => some TP
  | _ => none
/-- How many temporaries the way to a field takes. -/
def Ty.h (t : Ty) : Nat := match t.tp with | some _ => 3 | none => 4

mutual
/-- How many locals, temporaries, blocks the writing of a type takes. -/
def Ty.wn : Ty → Nat
  | .named _ _ _ => 1
  | .ntextFrom _ => 2
  | .list _ _ e => 2 + e.wn
  | .struct _ _ _ fs => fs.wn
  | _ => 0
def Flds.wn : Flds → Nat
  | .nil _ => 0
  | .cons _ t r => 1 + t.wn + r.wn
def Ty.wt (x : Cx) : Ty → Nat
  | .scal _ _ | .uuid => 3
  | .named _ _ _ => 4
  | .text | .ntext | .bytes | .nbytes => x.nt 3
  | .ntextFrom _ => 0
  | .list _ null e => x.nt (if null.isSome then 6 else 4) + 3 + 1 + 1 + e.h + e.wt x + 1
  | .struct _ _ _ fs => fs.wt x
def Flds.wt (x : Cx) : Flds → Nat
  | .nil _ => match x.fl with | none => 0 | some _ => 1 + 8 + 5
  | .cons v t r => v.nt + t.h + t.wt x + r.wt x
def Ty.wb : Ty → Nat
  | .list _ _ e => 2 + e.wb
  | .struct _ _ _ fs => fs.wb
  | _ => 0
def Flds.wb : Flds → Nat
  | .nil _ => 0
  | .cons _ t r => t.wb + r.wb
end

/-- 'if isFlexible { dst = kbin.AppendUvarint(dst, 0+uint32(s.UnknownTags.Len())); dst = s.UnknownTags.AppendEach(dst) }' -/
def wTags (E : Env) (x : Cx) (TP TU : TypeId) (s f t : Nat) : List Code :=
  match x.fl with
  | none => []
  | some fl => [sq [rg [oMove t (.tmp fl) E.tBool], .cond (.tmp t) (sq [
      rg [oMove (t + 1) (.tmp 1) E.tBytes, oMove (t + 2) (.tmp s) TP, oNil (t + 3) (.tmp (t + 2)), oField (t + 4) TU (.tmp (t + 3)) f, oCall (some (t + 5)) E.tLen #[.tmp (t + 4)] #[E.tTags] E.tInt,
        oConv (t + 6) E.tInt E.tU32 (.tmp (t + 5)), oBin (t + 7) .add E.tU32 (.const (.int .u32 0)) (.tmp (t + 6)) E.tU32 E.tU32,
        oCall (some (t + 8)) E.wUvarint #[.tmp (t + 1), .tmp (t + 7)] #[E.tBytes, E.tU32] E.tBytes, oAssign 1 (.tmp (t + 8)) E.tBytes],
      rg [oMove (t + 9) (.tmp s) TP, oNil (t + 10) (.tmp (t + 9)), oField (t + 11) TU (.tmp (t + 10)) f, oMove (t + 12) (.tmp 1) E.tBytes,
        oCall (some (t + 13)) E.tEach #[.tmp (t + 11), .tmp (t + 12)] #[E.tTags, E.tBytes] E.tBytes, oAssign 1 (.tmp (t + 13)) E.tBytes]]) .skip]]

mutual
/-- The writing of what slot v holds (of a struct: of what it points to). -/
def Ty.wc (E : Env) (x : Cx) (v n t b : Nat) : Ty → List Code
  | .scal s _ => [wApp E (E.wScal s) (E.tScal s) v t]
  | .uuid => [wAppArr E E.wUuid E.tUuid v t]
  | .named s T _ => [rg [oMove t (.tmp v) T, oAssign n (.tmp t) (E.tScal s)], wApp E (E.wScal s) (E.tScal s) n (t + 1)]
  | .text => [wFlex E x t 3 (wApp E E.wCStr E.tStr v) (wApp E E.wStr E.tStr v)]
  | .ntext => [wFlex E x t 3 (wApp E E.wCNStr E.tPStr v) (wApp E E.wNStr E.tPStr v)]
  | .ntextFrom _ => []
  | .bytes => [wFlex E x t 3 (wApp E E.wCBytes E.tBytes v) (wApp E E.wBytes E.tBytes v)]
  | .nbytes => [wFlex E x t 3 (wApp E E.wCNBytes E.tBytes v) (wApp E E.wNBytes E.tBytes v)]
  | .list TS null e =>
    let t1 := t + x.nt (if null.isSome then 6 else 4)
    [if null.isSome then wFlex E x t 6 (wNLens E E.wCNLen TS v) (wNLens E E.wNLen TS v) else wFlex E x t 4 (wLens E E.wCLen TS v) (wLens E E.wLen TS v),
    (match e.tp with
     | some TP =>
       wLoop E TS v t1 b (t1 + 8 + e.wt x) (sq ([rg [oMove (t1 + 4) (.tmp (t1 + 2)) E.tInt, oAssign n (.tmp (t1 + 4)) E.tInt],
         rg [oMove (t1 + 5) (.tmp v) TS, oMove (t1 + 6) (.tmp n) E.tInt, oIndexAddr (t1 + 7) TS (.tmp (t1 + 5)) (.tmp (t1 + 6)), oAssign (n + 1) (.tmp (t1 + 7)) TP]] ++
         Ty.wc E x (n + 1) (n + 2) (t1 + 8) (b + 2) e))
     | none =>
       wLoop E TS v t1 b (t1 + 9 + e.wt x) (sq ([rg [oMove (t1 + 4) (.tmp (t1 + 2)) E.tInt, oAssign n (.tmp (t1 + 4)) E.tInt],
         rg [oMove (t1 + 5) (.tmp v) TS, oMove (t1 + 6) (.tmp n) E.tInt, oIndexAddr (t1 + 7) TS (.tmp (t1 + 5)) (.tmp (t1 + 6)), oLoad (t1 + 8) (e.T E) (.tmp (t1 + 7)), oAssign (n + 1) (.tmp (t1 + 8)) (e.T E)]] ++
         Ty.wc E x (n + 1) (n + 2) (t1 + 9) (b + 2) e)))]
  | .struct TP TU _ fs => fs.wc E x TP TU v 0 n t b
def Flds.wc (E : Env) (x : Cx) (TP TU : TypeId) (s idx n t b : Nat) : Flds → List Code
  | .nil _ => wTags E x TP TU s idx t
  | .cons v ty r =>
    let t1 := t + v.nt
    let body : Code := match ty.tp with
      | some TP' => sq (rg [oMove t1 (.tmp s) TP, oNil (t1 + 1) (.tmp t1), oField (t1 + 2) TU (.tmp (t1 + 1)) idx, oAssign n (.tmp (t1 + 2)) TP'] :: Ty.wc E x n (n + 1) (t1 + 3) b ty)
      | none => sq ((if ty.arr then wLoadArr TP TU (ty.T E) n s idx t1 else wLoad TP TU (ty.T E) n s idx t1) :: Ty.wc E x n (n + 1) (t1 + 4) b ty)
    ifVer E x v t body :: r.wc E x TP TU s (idx + 1) (n + 1 + ty.wn) (t1 + ty.h + ty.wt x) (b + ty.wb)
end

/-- A message: its pointer type, its struct type, its Default, the first flexible version (if there is one). -/
structure Msg where
  TP : TypeId
  TU : TypeId
  FD : FuncId
  flex : Option Nat
  kept : Bool
  fs : Flds

def Msg.wx (m : Msg) : Cx := ⟨5, m.flex.map fun _ => 6⟩
/-- What AppendTo writes, and the number of its first field (what is kept begins with its version). -/
def Msg.wfs (m : Msg) : Flds := if m.kept then .cons .all (.scal .i16 0) m.fs else m.fs
def Msg.wi (m : Msg) : Nat := if m.kept then 0 else 1
def Msg.wlocals (m : Msg) : Nat := (match m.flex with | none => 6 | some _ => 7) + m.wfs.wn
/-- AppendTo. -/
def Msg.wcode (E : Env) (m : Msg) : Code :=
  let n := match m.flex with | none => 6 | some _ => 7
  let t := m.wlocals
  sq ([rg [oAssign 4 (.const (.slice none 0 0)) E.tBytes], wLoad m.TP m.TU E.tI16 5 0 0 t, rg [oMove (t + 4) (.tmp 5) E.tI16]] ++
    (match m.flex with
     | none => m.wfs.wc E m.wx m.TP m.TU 0 m.wi n (t + 5) 0
     | some f => [rg [oMove (t + 5) (.tmp 5) E.tI16, oBin (t + 6) .geq E.tI16 (.tmp (t + 5)) (i16 f) E.tI16 E.tBool, oAssign 6 (.tmp (t + 6)) E.tBool], rg [oMove (t + 7) (.tmp 6) E.tBool]] ++
       m.wfs.wc E m.wx m.TP m.TU 0 m.wi n (t + 8) 0) ++
    (let t1 := t + (match m.flex with | none => 5 | some _ => 8) + m.wfs.wt m.wx
     [rg [oMove t1 (.tmp 1) E.tBytes, oAssign 4 (.tmp t1) E.tBytes], .ret]))

/-! ### reading -/
/-- The slots and functions of readFrom: 0 the message, 1 the bytes, 2 'unsafe', 6 the result, 7 the reader. -/
def rCall (E : Env) (F : FuncId) (T : TypeId) (x t : Nat) : Code :=
  rg [oCall (some t) F #[.tmp 7] #[E.tRd] T, oAssign x (.tmp t) T]
def rCallArr (E : Env) (F : FuncId) (T : TypeId) (x t : Nat) : Code :=
  rg [oCall (some t) F #[.tmp 7] #[E.tRd] T, oAlloc x T, oStore T (.tmp x) (.tmp t)]
/-- 's.F = x' -/
def rStore (TP TU T : TypeId) (arr : Bool) (x s f t : Nat) : Code :=
  rg [oMove t (.tmp s) TP, if arr then oLoad (t + 1) T (.tmp x) else oMove (t + 1) (.tmp x) T, oNil (t + 2) (.tmp t), oField (t + 3) TU (.tmp (t + 2)) f, oStore T (.tmp (t + 3)) (.tmp (t + 1))]
/-- 'if unsafe { A } else { B }' -/
def rIf (E : Env) (t : Nat) (c : Tmp) (A B : Code) : Code := sq [rg [oMove t (.tmp c) E.tBool], .cond (.tmp t) A B]

/-- Which slot holds what was read, and how many locals and temporaries that takes. -/
def Ty.rslot : Ty → Nat
  | .named _ _ _ => 2
  | _ => 0
mutual
def Ty.rn : Ty → Nat
  | .named _ _ _ => 2
  | .ntextFrom _ => 1
  | .list _ _ e => 3 + (match e.tp with | some _ => 2 | none => 1) + e.rn
  | .struct _ _ _ fs => fs.rn
  | _ => 0
def Flds.rn : Flds → Nat
  | .nil _ => 0
  | .cons _ t r => 1 + (match t.tp with | some _ => 1 | none => 0) + t.rn + r.rn
def Ty.rt (x : Cx) : Ty → Nat
  | .scal _ _ | .uuid => 1
  | .named _ _ _ => 3
  | .text | .ntext => match x.fl with | none => 3 | some _ => 7
  | .bytes | .nbytes => match x.fl with | none => 1 | some _ => 3
  | .ntextFrom _ => 0
  | .list _ null e => 4 + 1 + (match x.fl with | none => 1 | some _ => 3) + (if null.isSome then 7 else 0) + 3 + 2 + 5 + 5 + e.h + e.rt x + 1
  | .struct _ _ _ fs => 3 + fs.rt x
def Flds.rt (x : Cx) : Flds → Nat
  | .nil _ => match x.fl with | none => 0 | some _ => 5
  | .cons v t r => v.nt + t.h + t.rt x + r.rt x
end

/-- 'v := s.X; a := v; var l int32; l = ..; (if version < N || l == 0 { a = []T{} }); if !b.Ok() { return b.Complete() }; a = a[:0]; if l > 0 { a = append(a, make([]T, l)...) }; for i := int32(0); i < l; i++ { body }; v = a' -/
def rListHead (E : Env) (x : Cx) (TP TU TS : TypeId) (null : Option Nat) (n s f t : Nat) : List Code :=
  let t1 := t + 5 + (match x.fl with | none => 1 | some _ => 3)
  let t2 := t1 + (if null.isSome then 7 else 0)
  [wLoad TP TU TS n s f t,
   rg [oMove (t + 4) (.tmp n) TS, oAssign (n + 1) (.tmp (t + 4)) TS],
   rg [oAssign (n + 2) (i32 0) E.tI32],
   (match x.fl with
    | none => rCall E E.rLen E.tI32 (n + 2) (t + 5)
    | some fl => rIf E (t + 5) fl (rCall E E.rCLen E.tI32 (n + 2) (t + 6)) (rCall E E.rLen E.tI32 (n + 2) (t + 7)))] ++
  (match null with
   | none => []
   | some N => [sq [rg [oMove t1 (.tmp x.vs) E.tI16, oBin (t1 + 1) .lss E.tI16 (.tmp t1) (i16 N) E.tI16 E.tBool, oMove (t1 + 2) (.tmp (t1 + 1)) E.tBool,
       ⟨some (t1 + 3), .move (.tmp (n + 2)), E.tI32, "", #[], some (2, false)⟩,
       ⟨some (t1 + 4), .binOp .eql E.tI32 (.tmp (t1 + 3)) (i32 0) E.tI32, E.tBool, "", #[], some (2, false)⟩,
       ⟨some (t1 + 5), .pick (.tmp (t1 + 2)) (.const (.bool true)) (.tmp (t1 + 4)), E.tBool, "", #[], none⟩],
       .cond (.tmp (t1 + 5)) (rg [oBuildSlice (t1 + 6) TS 0 #[], oAssign (n + 1) (.tmp (t1 + 6)) TS]) .skip]]) ++
  [sq [rg [oCall (some t2) E.rOk #[.tmp 7] #[E.tRd] E.tBool, oUn (t2 + 1) .not E.tBool (.tmp t2) E.tBool],
     .cond (.tmp (t2 + 1)) (sq [rCall E E.rComplete E.tErr 6 (t2 + 2), .ret]) .skip],
   rg [oMove (t2 + 3) (.tmp (n + 1)) TS, oSlice (t2 + 4) TS (.tmp (t2 + 3)) none (some (i64 0)) none, oAssign (n + 1) (.tmp (t2 + 4)) TS],
   sq [rg [oMove (t2 + 5) (.tmp (n + 2)) E.tI32, oBin (t2 + 6) .gtr E.tI32 (.tmp (t2 + 5)) (i32 0) E.tI32 E.tBool],
     .cond (.tmp (t2 + 6)) (rg [oMove (t2 + 7) (.tmp (n + 1)) TS, oMove (t2 + 8) (.tmp (n + 2)) E.tI32, oBuiltin (t2 + 9) .append #[.tmp (t2 + 7), .tmp (t2 + 8)] #[TS, E.tI32] TS, oAssign (n + 1) (.tmp (t2 + 9)) TS]) .skip]]
def rLoop (E : Env) (n t b : Nat) (body : Code) : Code :=
  sq [rg [oAssign (n + 3) (i32 0) E.tI32],
    .block b (.loop (sq [sq [rg [oMove t (.tmp (n + 3)) E.tI32, oMove (t + 1) (.tmp (n + 2)) E.tI32, oBin (t + 2) .lss E.tI32 (.tmp t) (.tmp (t + 1)) E.tI32 E.tBool], .cond (.tmp (t + 2)) .skip (.exit b)],
      .block (b + 1) body,
      rg [oMove (t + 3) (.tmp (n + 3)) E.tI32, oBin (t + 4) .add E.tI32 (.tmp (t + 3)) (i32 1) E.tI32 E.tI32, oAssign (n + 3) (.tmp (t + 4)) E.tI32]]))]

/-- 's.UnknownTags = internalReadTags(&b)' -/
def rTagsC (E : Env) (x : Cx) (TP TU : TypeId) (s f t : Nat) : List Code :=
  match x.fl with
  | none => []
  | some fl => [sq [rg [oMove t (.tmp fl) E.tBool], .cond (.tmp t) (rg [oMove (t + 1) (.tmp s) TP, oCall (some (t + 2)) E.rTags #[.tmp 7] #[E.tPRd] E.tTags, oNil (t + 3) (.tmp (t + 1)),
      oField (t + 4) TU (.tmp (t + 3)) f, oStore E.tTags (.tmp (t + 4)) (.tmp (t + 2))]) .skip]]

mutual
/-- The reading of a value into slot n (a struct: of what slot n points to; a list: n, with the struct's slot s and the field's number f). -/
def Ty.rc (E : Env) (x : Cx) (TP TU : TypeId) (s f n t b : Nat) : Ty → List Code
  | .scal k _ => [rCall E (E.rScal k) (E.tScal k) n t]
  | .uuid => [rCallArr E E.rUuid E.tUuid n t]
  | .named k T _ => [rg [oAssign n (.const (.int (match k with | .i8 => .i8 | _ => .i16) 0)) T], sq [rCall E (E.rScal k) (E.tScal k) (n + 1) t, rg [oMove (t + 1) (.tmp (n + 1)) (E.tScal k), oAssign n (.tmp (t + 1)) T]],
      rg [oMove (t + 2) (.tmp n) T, oAssign (n + 2) (.tmp (t + 2)) T]]
  | .text => [rg [oAssign n (.const (.string ⟨#[]⟩)) E.tStr],
      match x.fl with
      | none => rIf E t 2 (rCall E E.rUStr E.tStr n (t + 1)) (rCall E E.rStr E.tStr n (t + 2))
      | some fl => rIf E t 2 (rIf E (t + 1) fl (rCall E E.rUCStr E.tStr n (t + 2)) (rCall E E.rUStr E.tStr n (t + 3))) (rIf E (t + 4) fl (rCall E E.rCStr E.tStr n (t + 5)) (rCall E E.rStr E.tStr n (t + 6)))]
  | .ntext => [rg [oAssign n (.const (.pointer none)) E.tPStr],
      match x.fl with
      | none => rIf E t 2 (rCall E E.rUNStr E.tPStr n (t + 1)) (rCall E E.rNStr E.tPStr n (t + 2))
      | some fl => rIf E t fl (rIf E (t + 1) 2 (rCall E E.rUCNStr E.tPStr n (t + 2)) (rCall E E.rCNStr E.tPStr n (t + 3))) (rIf E (t + 4) 2 (rCall E E.rUNStr E.tPStr n (t + 5)) (rCall E E.rNStr E.tPStr n (t + 6)))]
  | .ntextFrom _ => []
  | .bytes => match x.fl with
      | none => [rg [oAssign n (.const (.slice none 0 0)) E.tBytes], rCall E E.rBytes E.tBytes n t]
      | some fl => [rg [oAssign n (.const (.slice none 0 0)) E.tBytes], rIf E t fl (rCall E E.rCBytes E.tBytes n (t + 1)) (rCall E E.rBytes E.tBytes n (t + 2))]
  | .nbytes => match x.fl with
      | none => [rg [oAssign n (.const (.slice none 0 0)) E.tBytes], rCall E E.rNBytes E.tBytes n t]
      | some fl => [rg [oAssign n (.const (.slice none 0 0)) E.tBytes], rIf E t fl (rCall E E.rCNBytes E.tBytes n (t + 1)) (rCall E E.rNBytes E.tBytes n (t + 2))]
  | .list TS null e =>
    let t2 := t + 5 + (match x.fl with | none => 1 | some _ => 3) + (if null.isSome then 7 else 0) + 3 + 2 + 5
    let t3 := t2 + 5 + e.h + e.rt x
    rListHead E x TP TU TS null n s f t ++
    [rLoop E n t2 b (match e.tp with
      | some TPe => sq ([rg [oMove (t2 + 5) (.tmp (n + 1)) TS, oMove (t2 + 6) (.tmp (n + 3)) E.tI32, oIndexAddr (t2 + 7) TS (.tmp (t2 + 5)) (.tmp (t2 + 6)), oAssign (n + 4) (.tmp (t2 + 7)) TPe]] ++
          Ty.rc E x 0 0 0 0 (n + 4) (t2 + 8) (b + 2) e)
      | none => sq (Ty.rc E x 0 0 0 0 (n + 4) (t2 + 5) (b + 2) e ++
          [rg [oMove (t2 + 5 + e.rt x) (.tmp (n + 1)) TS, oMove (t2 + 6 + e.rt x) (.tmp (n + 3)) E.tI32,
            if e.arr then oLoad (t2 + 7 + e.rt x) (e.T E) (.tmp (n + 4 + e.rslot)) else oMove (t2 + 7 + e.rt x) (.tmp (n + 4 + e.rslot)) (e.T E),
            oIndexAddr (t2 + 8 + e.rt x) TS (.tmp (t2 + 5 + e.rt x)) (.tmp (t2 + 6 + e.rt x)), oStore (e.T E) (.tmp (t2 + 8 + e.rt x)) (.tmp (t2 + 7 + e.rt x))]])),
     rg [oMove t3 (.tmp (n + 1)) TS, oAssign n (.tmp t3) TS]]
  | .struct TP' TU' FD fs =>
    [rg [oMove t (.tmp n) TP', oCall (some (t + 1)) FD #[.tmp t] #[TP'] 0], rg [oMove (t + 2) (.tmp n) TP', oAssign (n + 1) (.tmp (t + 2)) TP']] ++ Flds.rc E x TP' TU' (n + 1) 0 (n + 2) (t + 3) b fs
def Flds.rc (E : Env) (x : Cx) (TP TU : TypeId) (s idx n t b : Nat) : Flds → List Code
  | .nil _ => rTagsC E x TP TU s idx t
  | .cons v ty r =>
    let t1 := t + v.nt
    let body : Code := match ty.tp with
      | some TP' => sq (rg [oMove t1 (.tmp s) TP, oNil (t1 + 1) (.tmp t1), oField (t1 + 2) TU (.tmp (t1 + 1)) idx, oAssign n (.tmp (t1 + 2)) TP'] :: Ty.rc E x 0 0 0 0 n (t1 + 3) b ty)
      | none => sq (Ty.rc E x TP TU s idx n t1 b ty ++ [rStore TP TU (ty.T E) ty.arr (n + ty.rslot) s idx (t1 + ty.rt x)])
    ifVer E x v t body :: r.rc E x TP TU s (idx + 1) (n + 1 + (match ty.tp with | some _ => 1 | none => 0) + ty.rn) (t1 + ty.h + ty.rt x) (b + ty.wb)
end

/-! ### Default, and the small functions -/
/-- A scalar as a value. -/
def Scal.kind : Scal → IntKind
  | .i8 => .i8 | .i16 => .i16 | .i32 => .i32 | .i64 => .i64 | .u16 => .u16 | .bool => .u8 | .f64 => .u64
def Scal.val : Scal → Int → Value
  | .bool, n => .bool (n != 0)
  | .f64, n => .float .f64 n.toNat
  | s, n => .int s.kind n
mutual
def Ty.dn : Ty → Nat
  | .struct _ _ _ fs => 1 + fs.dn
  | _ => 0
def Flds.dn : Flds → Nat
  | .nil _ => 0
  | .cons _ t r => t.dn + r.dn
def Ty.dt : Ty → Nat
  | .scal _ df | .named _ _ df => if df = 0 then 0 else 3
  | .struct _ _ _ fs => 4 + fs.dt
  | _ => 0
def Flds.dt : Flds → Nat
  | .nil _ => 0
  | .cons _ t r => t.dt + r.dt
end
mutual
/-- The setting of the defaults of field idx of what slot s points to. -/
def Ty.dc (E : Env) (TP TU : TypeId) (s idx n t : Nat) : Ty → List Code
  | .scal k df => if df = 0 then [] else [rg [oMove t (.tmp s) TP, oNil (t + 1) (.tmp t), oField (t + 2) TU (.tmp (t + 1)) idx, oStore (E.tScal k) (.tmp (t + 2)) (.const (k.val df))]]
  | .named k T df => if df = 0 then [] else [rg [oMove t (.tmp s) TP, oNil (t + 1) (.tmp t), oField (t + 2) TU (.tmp (t + 1)) idx, oStore T (.tmp (t + 2)) (.const (k.val df))]]
  | .struct TP' TU' _ fs => [sq ([rg [oMove t (.tmp s) TP, oNil (t + 1) (.tmp t), oField (t + 2) TU (.tmp (t + 1)) idx, oAssign n (.tmp (t + 2)) TP'], rg [oMove (t + 3) (.tmp n) TP']] ++
      Flds.dc E TP' TU' n 0 (n + 1) (t + 4) fs)]
  | _ => []
def Flds.dc (E : Env) (TP TU : TypeId) (s idx n t : Nat) : Flds → List Code
  | .nil _ => []
  | .cons _ ty r => ty.dc E TP TU s idx n t ++ r.dc E TP TU s (idx + 1) (n + ty.dn) (t + ty.dt)
end
/-- Default of a struct whose fields begin with number idx. -/
def dcode (E : Env) (TP TU : TypeId) (idx : Nat) (fs : Flds) : Code := sq (fs.dc E TP TU 0 idx 2 (2 + fs.dn))

def Msg.rx (m : Msg) : Cx := ⟨8, m.flex.map fun _ => 9⟩
def Msg.rs (m : Msg) : Nat := match m.flex with | none => 9 | some _ => 10
/-- How many locals readFrom has. -/
def Msg.rlocals (m : Msg) : Nat := m.rs + 1 + m.fs.rn
/-- readFrom. -/
def Msg.rcode (E : Env) (m : Msg) : Code :=
  let t := m.rlocals
  let t1 := t + 4 + (if m.kept then 4 else 0)
  let t2 := t1 + 5 + (match m.flex with | none => 0 | some _ => 3)
  sq ([rg [oAssign 6 (.const .nilIface) E.tErr],
    rg [oMove t (.tmp 0) m.TP, oCall (some (t + 1)) m.FD #[.tmp t] #[m.TP] 0],
    rg [oMove (t + 2) (.tmp 1) E.tBytes, oBuild (t + 3) E.tRd #[(0, .tmp (t + 2))], oAlloc 7 E.tRd, oStore E.tRd (.tmp 7) (.tmp (t + 3))]] ++
    (if m.kept then [rg [oMove (t + 4) (.tmp 0) m.TP, oCall (some (t + 5)) E.rI16 #[.tmp 7] #[E.tRd] E.tI16, oNil (t + 6) (.tmp (t + 4)), oField (t + 7) m.TU (.tmp (t + 6)) 0, oStore E.tI16 (.tmp (t + 7)) (.tmp (t + 5))]] else []) ++
    [wLoad m.TP m.TU E.tI16 8 0 0 t1, rg [oMove (t1 + 4) (.tmp 8) E.tI16]] ++
    (match m.flex with
     | none => []
     | some f => [rg [oMove (t1 + 5) (.tmp 8) E.tI16, oBin (t1 + 6) .geq E.tI16 (.tmp (t1 + 5)) (i16 f) E.tI16 E.tBool, oAssign 9 (.tmp (t1 + 6)) E.tBool], rg [oMove (t1 + 7) (.tmp 9) E.tBool]]) ++
    [rg [oMove t2 (.tmp 0) m.TP, oAssign m.rs (.tmp t2) m.TP]] ++
    m.fs.rc E m.rx m.TP m.TU m.rs 1 (m.rs + 1) (t2 + 1) 0 ++
    [rCall E E.rComplete E.tErr 6 (t2 + 1 + m.fs.rt m.rx), .ret])
end Go.Km
