/- The plain law of what the spec writes: it is what is written of data that can be read. The plain law of what the spec writes, second part. A tree that came in, as the spec's functions take it. How long what the spec writes is; rows of laws over trees. Messages of old: the texts (printed by a program from the translation); readFrom of messages that have no version. spec.value spec.value: the whole. spec.value: the whole. spec.field spec.field: a list. spec.field: the whole. spec.field: the whole. spec.known spec.Write spec.part: the unknown tags and the end. spec.part. spec.unknown: the plain law, the rows, the two tests. spec.unknown: a tag is put in. spec.unknown. spec.part and spec.field of all shapes without known tags. spec.Default: trees in memory that are wholly new. spec.Default. spec.Default of all shapes. The spec's messages: literals of fields. The spec's messages: the functions that give them. The laws 'what the spec writes is read, and written back', 'what ends early is an error': over any program. The laws 'what the spec writes is read, and written back', second part: the law's body. The laws 'what ends early is an error': the law's body. What is kept within: read and written again; the spec's form of it. The laws over what is kept within: the spec's form; the laws' bodies. The laws over what is kept within: what ends early. A kept message of two numbers: at every version, below 0 too. Messages of old: they are read. Messages of old: the small functions. Messages of old: what the reference writes. Messages of old: what is read of octets. Messages of old: TellV0, TellV1. The law over messages of old: the body. The row of the law over messages of old. -/
import Derived.Test.YtlfhagnjemjaoaaDoorKb02
import Derived.Test.YtlfhagnjemjaoaaDoorKb03
import Derived.Test.YtlfhagnjemjaoaaDoorKb04
import Derived.Laws.CopyRow
import Derived.Laws.IdiomCopy
import Derived.Laws.OwnMore
set_option linter.unusedSimpArgs false
set_option linter.unusedVariables false
namespace Go.Km
open Go Go.RowKit
def Tr.s : Tr → List UInt8
 | .mk _ s _ _ _ => s
def Tr.n : Tr → Int
 | .mk n _ _ _ _ => n
def Tr.l : Tr → List Tr
 | .mk _ _ _ l _ => l.toL
end Go.Km
namespace Go.Km
open Go Go.RowKit
end Go.Km
namespace Go.Km
open Go Go.RowKit Go.ChangeShapes Go.WideShapes Go.ChangeAt
def structB (P : Program) (t : TypeId) (l : List (TypeId × Nat)) : Bool :=
 match P.underlying t with
 | some (.struct fs) => fs.toList.map (fun f => (f.type, f.offset)) == l
 | _ => false
theorem structB_inv {P : Program} {t : TypeId} {l : List (TypeId × Nat)} (h : structB P t l = true) :
  ∃ fs : Array Field, P.underlying t = some (.struct fs) ∧ fs.size = l.length ∧ ∀ (i : Nat) (p : TypeId × Nat), l[i]? = some p → ∃ f : Field, fs[i]? = some f ∧ f.type = p.1 ∧ f.offset = p.2 := by
 unfold structB at h
 split at h
 ·rename_i fs hu
  simp only [beq_iff_eq] at h
  refine ⟨fs, hu, by rw [← h]; simp, fun i p hp => ?_⟩
  rw [← h, List.getElem?_map, Option.map_eq_some_iff] at hp
  obtain ⟨f, hf, rfl⟩ := hp
  exact ⟨f, by simpa using hf, rfl, rfl⟩
 ·cases h
mutual
def Tr.wt : Tr → Nat
 | .mk _ s _ l u => 1 + s.length + l.wt + (u.map fun x => 1 + x.2.length).sum
def Trs.wt : Trs → Nat
 | .nil => 0
 | .cons t r => t.wt + r.wt
end
structure Bulk {H : Type} (B : DataW H → Nat) (BA : List (DataW H) → Nat) : Prop where
 agg : ∀ l, B (.agg l) = BA l + 1
 slice : ∀ l r, B (.slice l r) = BA l + BA r + 1
 nil : BA [] = 0
 cons : ∀ d r, BA (d :: r) = B d + BA r
 pos : ∀ d, 1 ≤ B d
theorem Bulk.len {H : Type} {B : DataW H → Nat} {BA : List (DataW H) → Nat} (b : Bulk B BA) : ∀ l : List (DataW H), l.length ≤ BA l
 | [] => by simp
 | d :: r => by
  have h1 := b.len r
  have h2 := b.pos d
  rw [b.cons, List.length_cons]
  omega
theorem Bulk.sum {H α : Type} {B : DataW H → Nat} {BA : List (DataW H) → Nat} (b : Bulk B BA) {f : α → Nat} : ∀ (l : List α) (es : List (DataW H × List MemPlace)), l.length = es.length → (∀ (i : Nat) (x : α) (y : DataW H × List MemPlace), l[i]? = some x → es[i]? = some y → f x ≤ B y.1) → (l.map f).sum ≤ BA (es.map (·.1))
 | [], es, _, _ => by simp
 | x :: l, [], h, _ => by simp at h
 | x :: l, y :: es, h, hp => by
  have h1 := b.sum l es (by simpa using h) (fun i x y hx hy => hp (i + 1) x y (by simpa using hx) (by simpa using hy))
  have h2 := hp 0 x y rfl rfl
  simp only [List.map_cons, List.sum_cons, b.cons]
  omega
section
variable {H : Type} {enc : TypeId × Value → H} {P : Program} {E : Env} {W : World} {sp : Nat → Bool} {held : Bool} {B : DataW H → Nat} {BA : List (DataW H) → Nat}
end
end Go.Km
namespace Go.Km
open Go Go.RowKit Go.ChangeShapes Go.WideShapes Go.ChangeAt
theorem u16_nat' {a : Int} (h : (Lit.int .u16 a).wf = true) : ∃ n : Nat, a = (n : Int) ∧ n < 65536 := by
 have h2 : IntKind.u16.min ≤ a ∧ a ≤ IntKind.u16.max := by
  simpa [Lit.wf] using h
 have e1 : IntKind.u16.min = 0 := by decide
 have e2 : IntKind.u16.max = 65535 := by decide
 rw [e1, e2] at h2
 exact ⟨a.toNat, by omega, by omega⟩
section
variable {H : Type} {enc : TypeId × Value → H} {P : Program} {E : Env} {B : DataW H → Nat} {BA : List (DataW H) → Nat}
end
end Go.Km
namespace Go.Km
open Go Go.RowKit
structure OC where
 tOld : TypeId := 0
 tOct : TypeId := 0
 tV : TypeId := 0
 tP : TypeId := 0
 tV1 : TypeId := 0
 tFn : TypeId := 0
 tTup : TypeId := 0
 own : FuncId := 0
 octets : FuncId := 0
 fOct : FuncId := 0
 oldB : FuncId := 0
 f8 : FuncId := 0
 f13 : FuncId := 0
 fits : FuncId := 0
 tv0 : FuncId := 0
 tv1 : FuncId := 0
 sold : FuncId := 0
 rf : FuncId := 0
 rf1 : FuncId := 0
def c_zzFits8 (E : Env) (C : OC) : Code :=
 (sq [(rg [(oQ 1 (.box C.tOct (.tmp 0)) 0),
   (oQ 2 (.assign (.const (.bool false))) E.tO)]),
  (sq [(rg [(oQ 3 (.fieldAddr C.tOct (.tmp 1) 1) 0),
    (oQ 4 (.load E.tB (.tmp 3)) E.tB),
    (oQ 5 (.call { callee := .builtin .len, args := #[(.tmp 4)], argTypes := #[E.tB] }) E.tI),
    (oQ 6 (.binOp .gtr E.tI (.tmp 5) (.const (.int .i64 2147483647)) E.tI) E.tO)]),
   (.cond (.tmp 6)
    (sq [(rg [(oQ 2 (.assign (.const (.bool false))) E.tO)]),
     .ret])
    .skip)]),
  (rg [(oQ 2 (.assign (.const (.bool true))) E.tO)]),
  .ret])
def c_zzFits13 (E : Env) (C : OC) : Code :=
 (sq [(rg [(oQ 1 (.box C.tOld (.tmp 0)) 0),
   (oQ 2 (.assign (.const (.bool false))) E.tO)]),
  (sq [(rg [(oQ 3 (.fieldAddr C.tOld (.tmp 1) 6) 0),
    (oQ 4 (.load C.tOct (.tmp 3)) C.tOct),
    (oQ 5 (.call { callee := .value (.func C.f8), args := #[(.tmp 4)], argTypes := #[C.tOct] }) E.tO),
    (oQ 6 (.unOp .not E.tO (.tmp 5)) E.tO)]),
   (.cond (.tmp 6)
    (sq [(rg [(oQ 2 (.assign (.const (.bool false))) E.tO)]),
     .ret])
    .skip)]),
  (sq [(rg [(oQ 7 (.fieldAddr C.tOld (.tmp 1) 7) 0),
    (oQ 8 (.load C.tOct (.tmp 7)) C.tOct),
    (oQ 9 (.call { callee := .value (.func C.f8), args := #[(.tmp 8)], argTypes := #[C.tOct] }) E.tO),
    (oQ 10 (.unOp .not E.tO (.tmp 9)) E.tO)]),
   (.cond (.tmp 10)
    (sq [(rg [(oQ 2 (.assign (.const (.bool false))) E.tO)]),
     .ret])
    .skip)]),
  (rg [(oQ 2 (.assign (.const (.bool true))) E.tO)]),
  .ret])
def c_ofits (E : Env) (C : OC) : Code :=
 (sq [(rg [(oQ 1 (.box C.tOld (.tmp 0)) 0),
   (oQ 2 (.assign (.const (.bool false))) E.tO)]),
  (rg [(oQ 3 (.fieldAddr C.tOld (.tmp 1) 6) 0),
   (oQ 4 (.fieldAddr C.tOct (.tmp 3) 1) 0),
   (oQ 5 (.load E.tB (.tmp 4)) E.tB),
   (oQ 6 (.call { callee := .builtin .len, args := #[(.tmp 5)], argTypes := #[E.tB] }) E.tI),
   (oQ 7 (.fieldAddr C.tOld (.tmp 1) 7) 0),
   (oQ 8 (.fieldAddr C.tOct (.tmp 7) 1) 0),
   (oQ 9 (.load E.tB (.tmp 8)) E.tB),
   (oQ 10 (.call { callee := .builtin .len, args := #[(.tmp 9)], argTypes := #[E.tB] }) E.tI),
   (oQ 11 (.binOp .add E.tI (.tmp 6) (.tmp 10) E.tI) E.tI),
   (oQ 12 (.binOp .leq E.tI (.tmp 11) (.const (.int .i64 131072)) E.tI) E.tO),
   (oQ 2 (.assign (.tmp 12)) E.tO)]),
  .ret])
def c_own (E : Env) (C : OC) : Code :=
 (sq [(rg [(oQ 2 (.assign (.const (.slice none 0 0))) E.tB)]),
  (rg [(oQ 3 (.move (.tmp 0)) E.tB),
   (oQ 4 (.call { callee := .builtin .append, args := #[(.const (.slice none 0 0)), (.tmp 3)], argTypes := #[E.tB, E.tB] }) E.tB),
   (oQ 2 (.assign (.tmp 4)) E.tB)]),
  .ret])
def c_octets (E : Env) (C : OC) : Code :=
 (sq [(rg [(oQ 2 (.alloc C.tOct) 0)]),
  (sq [(rg [(oQ 3 (.move (.tmp 0)) E.tB),
    (oQ 4 (.binOp .eql E.tB (.tmp 3) (.const (.slice none 0 0)) E.tB) E.tO)]),
   (.cond (.tmp 4)
    (sq [(rg [(oQ 5 (.build C.tOct #[(0, (.const (.bool true)))]) C.tOct),
      ⟨none, .store C.tOct (.tmp 2) (.tmp 5), 0, "", #[], none⟩]),
     .ret])
    .skip)]),
  (rg [(oQ 6 (.buildSlice E.tB 0 #[]) E.tB),
   (oQ 7 (.move (.tmp 0)) E.tB),
   (oQ 8 (.call { callee := .builtin .append, args := #[(.tmp 6), (.tmp 7)], argTypes := #[E.tB, E.tB] }) E.tB),
   (oQ 9 (.build C.tOct #[(1, (.tmp 8))]) C.tOct),
   ⟨none, .store C.tOct (.tmp 2) (.tmp 9), 0, "", #[], none⟩]),
  .ret])
def c_oldBytes (E : Env) (C : OC) : Code :=
 (sq [(rg [(oQ 3 (.box C.tOld (.tmp 1)) 0),
   (oQ 4 (.assign (.const (.slice none 0 0))) E.tB)]),
  (rgd [(oQ 6 (.fieldAddr C.tOld (.tmp 3) 0) 0),
   ⟨some 7, .load E.tI64 (.tmp 6), E.tI64, "", #[⟨0, .data⟩], none⟩,
   ⟨some 8, .call { callee := .value (.func E.sFixed), args := #[(.tmp 7), (.const (.int .i64 8))], argTypes := #[E.tI64, E.tI] }, E.tB, "", #[⟨1, .data⟩], none⟩,
   (oQ 9 (.fieldAddr C.tOld (.tmp 3) 1) 0),
   ⟨some 10, .load E.tI32 (.tmp 9), E.tI32, "", #[⟨3, .data⟩], none⟩,
   ⟨some 11, .convert E.tI32 E.tI64 (.tmp 10), E.tI64, "", #[⟨4, .data⟩], none⟩,
   ⟨some 12, .call { callee := .value (.func E.sFixed), args := #[(.tmp 11), (.const (.int .i64 4))], argTypes := #[E.tI64, E.tI] }, E.tB, "", #[⟨5, .data⟩, ⟨2, .chain⟩], none⟩,
   ⟨some 13, .call { callee := .builtin .append, args := #[(.tmp 8), (.tmp 12)], argTypes := #[E.tB, E.tB] }, E.tB, "", #[⟨2, .data⟩, ⟨6, .data⟩, ⟨6, .chain⟩], none⟩,
   ⟨some 5, .assign (.tmp 13), E.tB, "", #[⟨7, .data⟩, ⟨7, .chain⟩, ⟨0, .phase⟩, ⟨1, .phase⟩, ⟨2, .phase⟩, ⟨3, .phase⟩, ⟨4, .phase⟩, ⟨5, .phase⟩, ⟨6, .phase⟩, ⟨7, .phase⟩], none⟩]),
  (rg [(oQ 14 (.move (.tmp 5)) E.tB),
   (oQ 15 (.fieldAddr C.tOld (.tmp 3) 2) 0),
   (oQ 16 (.load E.tI32 (.tmp 15)) E.tI32),
   (oQ 17 (.convert E.tI32 E.tI64 (.tmp 16)) E.tI64),
   (oQ 18 (.call { callee := .value (.func E.sFixed), args := #[(.tmp 17), (.const (.int .i64 4))], argTypes := #[E.tI64, E.tI] }) E.tB),
   (oQ 19 (.call { callee := .builtin .append, args := #[(.tmp 14), (.tmp 18)], argTypes := #[E.tB, E.tB] }) E.tB),
   (oQ 5 (.assign (.tmp 19)) E.tB)]),
  (rg [(oQ 20 (.move (.tmp 5)) E.tB),
   (oQ 21 (.fieldAddr C.tOld (.tmp 3) 3) 0),
   (oQ 22 (.load E.tI8 (.tmp 21)) E.tI8),
   (oQ 23 (.convert E.tI8 E.tU8 (.tmp 22)) E.tU8),
   (oQ 24 (.fieldAddr C.tOld (.tmp 3) 4) 0),
   (oQ 25 (.load E.tI8 (.tmp 24)) E.tI8),
   (oQ 26 (.convert E.tI8 E.tU8 (.tmp 25)) E.tU8),
   (oQ 27 (.buildSlice E.tB 2 #[(0, (.tmp 23)), (1, (.tmp 26))]) E.tB),
   (oQ 28 (.call { callee := .builtin .append, args := #[(.tmp 20), (.tmp 27)], argTypes := #[E.tB, E.tB] }) E.tB),
   (oQ 5 (.assign (.tmp 28)) E.tB)]),
  (sq [(rg [(oQ 29 (.move (.tmp 0)) E.tI),
    (oQ 30 (.binOp .gtr E.tI (.tmp 29) (.const (.int .i64 0)) E.tI) E.tO)]),
   (.cond (.tmp 30)
    (rg [(oQ 31 (.move (.tmp 5)) E.tB),
     (oQ 32 (.fieldAddr C.tOld (.tmp 3) 5) 0),
     (oQ 33 (.load E.tI64 (.tmp 32)) E.tI64),
     (oQ 34 (.call { callee := .value (.func E.sFixed), args := #[(.tmp 33), (.const (.int .i64 8))], argTypes := #[E.tI64, E.tI] }) E.tB),
     (oQ 35 (.call { callee := .builtin .append, args := #[(.tmp 31), (.tmp 34)], argTypes := #[E.tB, E.tB] }) E.tB),
     (oQ 5 (.assign (.tmp 35)) E.tB)])
    .skip)]),
  (rgd [(oQ 36 (.move (.tmp 5)) E.tB),
   (oQ 37 (.fieldAddr C.tOld (.tmp 3) 6) 0),
   ⟨some 38, .load C.tOct (.tmp 37), C.tOct, "", #[⟨1, .data⟩], none⟩,
   ⟨some 39, .call { callee := .value (.func C.fOct), args := #[(.tmp 38)], argTypes := #[C.tOct] }, E.tB, "", #[⟨2, .data⟩], none⟩,
   ⟨some 40, .call { callee := .builtin .append, args := #[(.tmp 36), (.tmp 39)], argTypes := #[E.tB, E.tB] }, E.tB, "", #[⟨0, .data⟩, ⟨3, .data⟩, ⟨3, .chain⟩], none⟩,
   (oQ 41 (.fieldAddr C.tOld (.tmp 3) 7) 0),
   ⟨some 42, .load C.tOct (.tmp 41), C.tOct, "", #[⟨5, .data⟩], none⟩,
   ⟨some 43, .call { callee := .value (.func C.fOct), args := #[(.tmp 42)], argTypes := #[C.tOct] }, E.tB, "", #[⟨6, .data⟩, ⟨4, .chain⟩], none⟩,
   ⟨some 44, .call { callee := .builtin .append, args := #[(.tmp 40), (.tmp 43)], argTypes := #[E.tB, E.tB] }, E.tB, "", #[⟨4, .data⟩, ⟨7, .data⟩, ⟨7, .chain⟩], none⟩,
   ⟨some 4, .assign (.tmp 44), E.tB, "", #[⟨8, .data⟩, ⟨8, .chain⟩, ⟨0, .phase⟩, ⟨1, .phase⟩, ⟨2, .phase⟩, ⟨3, .phase⟩, ⟨4, .phase⟩, ⟨5, .phase⟩, ⟨6, .phase⟩, ⟨7, .phase⟩, ⟨8, .phase⟩], none⟩]),
  .ret])
def c_fixedOctets (E : Env) (C : OC) : Code :=
 (sq [(rg [(oQ 1 (.box C.tOct (.tmp 0)) 0),
   (oQ 2 (.assign (.const (.slice none 0 0))) E.tB)]),
  (sq [(rg [(oQ 3 (.fieldAddr C.tOct (.tmp 1) 0) 0),
    (oQ 4 (.load E.tO (.tmp 3)) E.tO)]),
   (.cond (.tmp 4)
    (sq [(rg [(oQ 5 (.call { callee := .value (.func E.sFixed), args := #[(.const (.int .i64 (-1))), (.const (.int .i64 4))], argTypes := #[E.tI64, E.tI] }) E.tB),
      (oQ 2 (.assign (.tmp 5)) E.tB)]),
     .ret])
    .skip)]),
  (rgd [(oQ 6 (.fieldAddr C.tOct (.tmp 1) 1) 0),
   ⟨some 7, .load E.tB (.tmp 6), E.tB, "", #[⟨0, .data⟩], none⟩,
   ⟨some 8, .call { callee := .builtin .len, args := #[(.tmp 7)], argTypes := #[E.tB] }, E.tI, "", #[⟨1, .data⟩], none⟩,
   ⟨some 9, .call { callee := .value (.func E.sFixed), args := #[(.tmp 8), (.const (.int .i64 4))], argTypes := #[E.tI64, E.tI] }, E.tB, "", #[⟨2, .data⟩], none⟩,
   (oQ 10 (.fieldAddr C.tOct (.tmp 1) 1) 0),
   ⟨some 11, .load E.tB (.tmp 10), E.tB, "", #[⟨4, .data⟩], none⟩,
   ⟨some 12, .call { callee := .builtin .append, args := #[(.tmp 9), (.tmp 11)], argTypes := #[E.tB, E.tB] }, E.tB, "", #[⟨3, .data⟩, ⟨5, .data⟩, ⟨3, .chain⟩], none⟩,
   ⟨some 2, .assign (.tmp 12), E.tB, "", #[⟨6, .data⟩, ⟨6, .chain⟩, ⟨0, .phase⟩, ⟨1, .phase⟩, ⟨2, .phase⟩, ⟨3, .phase⟩, ⟨4, .phase⟩, ⟨5, .phase⟩, ⟨6, .phase⟩], none⟩]),
  .ret])
def c_sameOld (E : Env) (C : OC) : Code :=
 (sq [(rg [(oQ 2 (.box C.tOld (.tmp 0)) 0),
   (oQ 3 (.box C.tOld (.tmp 1)) 0),
   (oQ 4 (.assign (.const (.bool false))) E.tO)]),
  (rgd [(oQ 5 (.load C.tOld (.tmp 2)) C.tOld),
   ⟨some 6, .call { callee := .value (.func C.oldB), args := #[(.const (.int .i64 1)), (.tmp 5)], argTypes := #[E.tI, C.tOld] }, E.tB, "", #[⟨0, .data⟩], none⟩,
   (oQ 7 (.load C.tOld (.tmp 3)) C.tOld),
   ⟨some 8, .call { callee := .value (.func C.oldB), args := #[(.const (.int .i64 1)), (.tmp 7)], argTypes := #[E.tI, C.tOld] }, E.tB, "", #[⟨2, .data⟩, ⟨1, .chain⟩], none⟩,
   ⟨some 9, .call { callee := .value (.func E.sSame), args := #[(.tmp 6), (.tmp 8)], argTypes := #[E.tB, E.tB] }, E.tO, "", #[⟨1, .data⟩, ⟨3, .data⟩, ⟨3, .chain⟩], none⟩,
   ⟨some 4, .assign (.tmp 9), E.tO, "", #[⟨4, .data⟩, ⟨4, .chain⟩, ⟨0, .phase⟩, ⟨1, .phase⟩, ⟨2, .phase⟩, ⟨3, .phase⟩, ⟨4, .phase⟩], none⟩]),
  .ret])
def c_tellOld (E : Env) (C : OC) : Code :=
 (sq [(rg [(oQ 3 (.box C.tOld (.tmp 0)) 0),
   (oQ 6 (.assign (.const (.bool false))) E.tO)]),
  (sq [(rg [(oQ 14 (.load C.tOld (.tmp 3)) C.tOld),
    (oQ 15 (.call { callee := .value (.func C.f13), args := #[(.tmp 14)], argTypes := #[C.tOld] }) E.tO),
    (oQ 16 (.unOp .not E.tO (.tmp 15)) E.tO)]),
   (.cond (.tmp 16)
    (sq [(rg [(oQ 6 (.assign (.const (.bool true))) E.tO)]),
     .ret])
    .skip)]),
  (sq [(rg [(oQ 17 (.load C.tOld (.tmp 3)) C.tOld),
    (oQ 18 (.call { callee := .value (.func C.fits), args := #[(.tmp 17)], argTypes := #[C.tOld] }) E.tO),
    (oQ 19 (.unOp .not E.tO (.tmp 18)) E.tO)]),
   (.cond (.tmp 19)
    (sq [(rg [(oQ 6 (.assign (.const (.bool true))) E.tO)]),
     .ret])
    .skip)]),
  (rg [(oQ 7 (.assign (.const (.int .i64 0))) E.tI),
   (oQ 8 (.assign (.func C.tv0)) C.tFn)]),
  (sq [(rg [(oQ 20 (.move (.tmp 1)) E.tO)]),
   (.cond (.tmp 20)
    (rg [(oQ 7 (.assign (.const (.int .i64 1))) E.tI),
     (oQ 8 (.assign (.func C.tv1)) C.tFn)])
    (rg [(oQ 21 (.fieldAddr C.tOld (.tmp 3) 5) 0),
     ⟨none, .store E.tI64 (.tmp 21) (.const (.int .i64 0)), 0, "", #[], none⟩]))]),
  (rg [(oQ 22 (.move (.tmp 7)) E.tI),
   (oQ 23 (.load C.tOld (.tmp 3)) C.tOld),
   (oQ 24 (.call { callee := .value (.func C.oldB), args := #[(.tmp 22), (.tmp 23)], argTypes := #[E.tI, C.tOld] }) E.tB),
   (oQ 9 (.assign (.tmp 24)) E.tB)]),
  (rg [(oQ 26 (.move (.tmp 8)) C.tFn),
   (oQ 27 (.move (.tmp 9)) E.tB),
   (oQ 28 (.call { callee := .value (.tmp 26), args := #[(.tmp 27)], argTypes := #[E.tB] }) C.tTup),
   (oQ 25 (.move (.tmp 28)) C.tTup),
   (oQ 29 (.extract (.tmp 25) 0) C.tOld),
   (oQ 30 (.extract (.tmp 25) 1) E.tO),
   (oQ 10 (.alloc C.tOld) 0),
   ⟨none, .store C.tOld (.tmp 10) (.tmp 29), 0, "", #[], none⟩,
   (oQ 11 (.assign (.tmp 30)) E.tO)]),
  (rg [(oQ 32 (.move (.tmp 8)) C.tFn),
   (oQ 33 (.move (.tmp 9)) E.tB),
   (oQ 34 (.move (.tmp 2)) E.tU16),
   (oQ 35 (.convert E.tU16 E.tI (.tmp 34)) E.tI),
   (oQ 36 (.move (.tmp 9)) E.tB),
   (oQ 37 (.call { callee := .builtin .len, args := #[(.tmp 36)], argTypes := #[E.tB] }) E.tI),
   (oQ 38 (.binOp .rem E.tI (.tmp 35) (.tmp 37) E.tI) E.tI),
   (oQ 39 (.slice E.tB (.tmp 33) none (some (.tmp 38)) none) E.tB),
   (oQ 40 (.call { callee := .value (.tmp 32), args := #[(.tmp 39)], argTypes := #[E.tB] }) C.tTup),
   (oQ 31 (.move (.tmp 40)) C.tTup),
   (oQ 41 (.extract (.tmp 31) 0) C.tOld),
   (oQ 42 (.extract (.tmp 31) 1) E.tO),
   (oQ 12 (.alloc C.tOld) 0),
   ⟨none, .store C.tOld (.tmp 12) (.tmp 41), 0, "", #[], none⟩,
   (oQ 13 (.assign (.tmp 42)) E.tO)]),
  (rg [(oQ 43 (.move (.tmp 11)) E.tO),
   (oQ 44 (.move (.tmp 43)) E.tO),
   ⟨some 45, .move (.tmp 13), E.tO, "", #[], some (1, true)⟩,
   ⟨some 46, .unOp .not E.tO (.tmp 45), E.tO, "", #[], some (1, true)⟩,
   (oQ 47 (.pick (.tmp 44) (.tmp 46) (.const (.bool false))) E.tO),
   (oQ 48 (.move (.tmp 47)) E.tO),
   ⟨some 49, .load C.tOld (.tmp 10), C.tOld, "", #[], some (5, true)⟩,
   ⟨some 50, .load C.tOld (.tmp 3), C.tOld, "", #[], some (5, true)⟩,
   ⟨some 51, .call { callee := .value (.func C.sold), args := #[(.tmp 49), (.tmp 50)], argTypes := #[C.tOld, C.tOld] }, E.tO, "", #[], some (5, true)⟩,
   (oQ 52 (.pick (.tmp 48) (.tmp 51) (.const (.bool false))) E.tO),
   (oQ 6 (.assign (.tmp 52)) E.tO)]),
  .ret])
attribute [local irreducible] vc rO_ runG runS runD
def Ty.oF (E : Env) : Ty → FuncId
 | .scal s _ => E.rScal s
 | .nbytes => E.rNBytes
 | _ => 0
def Flds.oc (E : Env) (TP TU : TypeId) (s : Nat) : Flds → Nat → Nat → Nat → List Code
 | .nil _, _, _, _ => []
 | .cons _ ty r, idx, n, t => sq [rCall E (ty.oF E) (ty.T E) n t, rStore TP TU (ty.T E) false n s idx (t + 1)] :: r.oc E TP TU s (idx + 1) (n + 1) (t + 5)
def Ty.okO (P : Program) (E : Env) : Ty → Bool
 | .scal s _ => E.rScal s != 0 && oneT P (E.tScal s)
 | .nbytes => E.rNBytes != 0 && oneT P E.tB
 | _ => false
def Ver.isAll : Ver → Bool
 | .all => true
 | _ => false
def Flds.okO (P : Program) (E : Env) (TU : TypeId) : Nat → Flds → Bool
 | _, .nil b => !b
 | idx, .cons v ty r => v.isAll && fieldOff P TU idx == some idx && ty.okO P E && r.okO P E TU (idx + 1)
def Flds.ln : Flds → Nat
 | .nil _ => 0
 | .cons _ _ r => 1 + r.ln
section
variable {P : Program} {E : Env} {T : List (Nat × List UInt8) → Prop}
theorem leaf_o (H : EnvR P E T) (ty : Ty) (hok : ty.okO P E = true) : ∀ rb sb st W, RdS W rb sb st → RdV P (ty.oF E) rb sb W (ty.rd false 0 st).2 fun x w' => x.oneCell' = true ∧ ∃ d, ty.Rep w' ⟨sb, T⟩ W.heap.size [x] d ∧ ((ty.rd false 0 st).2.2 = false → d = (ty.rd false 0 st).1) := by
 intro rb sb st W hr
 cases ty with
 | scal s df =>
  simp only [Ty.okO, Bool.and_eq_true, bne_iff_ne] at hok
  refine (H.scal s hok.1 rb sb st W hr).mono ?_
  rintro v w' ⟨⟨rfl, h2⟩, h3, h4⟩
  exact ⟨⟨Scal.val_one _ _, .int (s.rd st).1, ⟨rfl, h2⟩, fun _ => rfl⟩, h3, h4⟩
 | nbytes =>
  simp only [Ty.okO, Bool.and_eq_true, bne_iff_ne] at hok
  refine (H.nocts false hok.1 rb sb st W hr).mono ?_
  rintro v w' ⟨⟨o, h1, h2⟩, h3, h4⟩
  refine ⟨⟨?_, .bytes o, ?_, fun h => by rw [h2 (by simpa only [Ty.rd] using h)]; rfl⟩, h3, h4⟩
  ·cases o with
   | none => simp only [OctV] at h1; rw [h1]; rfl
   | some l => obtain ⟨q, o, cap, rfl, _⟩ := h1; rfl
  ·cases o with
   | none => simp only [OctV] at h1; rw [h1]; rfl
   | some l =>
    obtain ⟨q, o, cap, g1, g2, g3, g4⟩ := h1
    exact ⟨q, o, cap, by rw [g1], g2, g3, g4⟩
 | _ => simp [Ty.okO] at hok
theorem okO_one {ty : Ty} (hok : ty.okO P E = true) : oneT P (ty.T E) = true ∧ ty.size = 1 := by
 cases ty <;> simp_all [Ty.okO, Ty.T, Ty.size]
theorem o_flds (H : EnvR P E T) : ∀ (fs : Flds) (L TP TU s idx n t rb sb pb po B : Nat) (a : Act) (w : World) (st : RSt) (Q : Exit → Act → World → Prop),
  fs.okO P E TU idx = true → 7 < s → s < n → n + fs.ln ≤ L → L ≤ t → t + 5 * fs.ln ≤ a.tmps.size → RdS w rb sb st → a.eval (.tmp 7) = .pointer (some ⟨rb, 0, none⟩) → a.eval (.tmp s) = .pointer (some ⟨pb, po, none⟩) →
  (∀ i, i < fs.ln → Free w pb (po + idx + i)) → pb ≠ rb → pb ≠ sb → rb < B → pb < B → B ≤ w.heap.size →
  (∀ a' w' cs ds, Fr (KR L n t) a a' → RdS w' rb sb (fs.rd false 0 st).2.2 → cs.length = fs.ln → Cells w' pb (po + idx) cs → fs.Rep w' ⟨sb, T⟩ B cs ds [] → Eff (FM rb pb (po + idx) fs.ln) w w' → ((fs.rd false 0 st).2.2.2 = false → ds = (fs.rd false 0 st).1) → Q .normal a' w') →
  vc P (sq (fs.oc E TP TU s idx n t)) Q a w
 | .nil b, L, TP, TU, s, idx, n, t, rb, sb, pb, po, B, a, w, st, Q, hok, h7, hsn, hn, hL, hsz, hr, hp7, hps, hf, h1, h2, hB1, hB2, hBw, k => by
  simp only [Flds.okO, Bool.not_eq_true'] at hok
  subst hok
  refine vN (k a w [] [] (Fr.refl _ a) hr rfl ?_ ?_ (Eff.refl _ w) (fun _ => rfl))
  ·intro i v hv
   simp at hv
  ·simp [Flds.Rep]
 | .cons v ty r, L, TP, TU, s, idx, n, t, rb, sb, pb, po, B, a, w, st, Q, hok, h7, hsn, hn, hL, hsz, hr, hp7, hps, hf, h1, h2, hB1, hB2, hBw, k => by
  simp only [Flds.okO, Bool.and_eq_true, beq_iff_eq] at hok
  obtain ⟨⟨⟨hv, hfo⟩, hty⟩, hrk⟩ := hok
  have hva : v.has 0 = true := by cases v <;> first | rfl | (simp [Ver.isAll] at hv)
  obtain ⟨h1t, hsz1⟩ := okO_one hty
  simp only [Flds.ln] at hn hsz hf k
  have hrd : (Flds.cons v ty r).rd false 0 st = ((ty.rd false 0 st).1 :: (r.rd false 0 (ty.rd false 0 st).2).1, (r.rd false 0 (ty.rd false 0 st).2).2) := by simp only [Flds.rd, hva, if_true]
  have hkt : ∀ d, t ≤ d → ¬ KR L n t d := by
   rintro d hd hh
   unfold KR at hh
   omega
  have hkn : ¬ KR L n t n := by
   intro hh
   unfold KR at hh
   omega
  simp only [Flds.oc]
  refine vS (vS (m_rcall (K := KR L n t) hp7 (leaf_o H ty hty rb sb st w hr) hkt hkn (by omega) (by omega) ?_))
  rintro a1 x w1 hf1 hx ⟨⟨hx1, d, hrep, hd⟩, hr1, hE1⟩
  have hz1 := hf1.size
  have hps1 : a1.eval (.tmp s) = .pointer (some ⟨pb, po, none⟩) := by rw [hf1.slot s (.inl hsn)]; exact hps
  refine vX (rM (rM ?_))
  refine r_nil (ad := ⟨pb, po, none⟩) (by simp (disch := (try simp only [sP]); omega) only [eV, hps1]) ?_
  refine rF (b := pb) (o := po) (by simp (disch := (try simp only [sP]); omega) only [eV]) hfo ?_
  have hfree : Free w1 pb (po + idx) := (by simpa using hf 0 (by omega) : Free w pb (po + idx)).eff hE1
  refine r_store (b := pb) (o := po + idx) (v := x) (by simp (disch := (try simp only [sP]); omega) only [eV]) (by simp (disch := (try simp only [sP]); omega) only [eV, hx]) hx1 h1t hfree ?_
  refine dn (vN ?_)
  change Exit.then (vc P (sq (Flds.oc E TP TU s r (idx + 1) (n + 1) (t + 5))) Q) Q Exit.normal _ (setCells w1 pb (po + idx) [x])
  have hE2 := setCells_eff pb [x] w1 (po + idx)
  have hcell : (setCells w1 pb (po + idx) [x]).cell? ⟨pb, po + idx, none⟩ = some x := by
   have := setCells_cell pb [x] w1 (po + idx) (fun j hj => by
    have : j = 0 := by simpa using hj
    subst this
    exact hfree.1) 0 x rfl
   simpa using this
  have hw1 := hE1.size
  generalize hw2 : setCells w1 pb (po + idx) [x] = w2 at *
  have hw2s := hE2.size
  generalize ha2 : Act.put (Act.put (Act.put (Act.put a1 _ _) _ _) _ _) _ _ = a2
  have hf2 : Fr (KR L n t) a1 a2 := by
   subst ha2
   exact ((((Fr.refl _ a1).put _ (hkt _ (by omega))).put _ (hkt _ (by omega))).put _ (hkt _ (by omega))).put _ (hkt _ (by omega))
  have hf02 := hf1.trans hf2
  have hz2 := hf02.size
  have hEw : Eff (FM rb pb (po + idx) 1) w w2 := (hE1.mono (fun k i _ h => .inl h)).trans (hE2.mono (fun k i _ h => .inr ⟨h.1, h.2.1, by simpa using h.2.2⟩))
  have hr2 : RdS w2 rb sb (ty.rd false 0 st).2 := hr1.keep hE2 (by rintro j ⟨h, _⟩; exact h1 h.symm) (by rintro j ⟨h, _⟩; exact h2 h.symm)
  refine o_flds H r L TP TU s (idx + 1) (n + 1) (t + 5) rb sb pb po B a2 w2 (ty.rd false 0 st).2 Q hrk h7 (by omega) (by omega) (by omega) (by rw [hz2]; omega) hr2 (by rw [hf02.slot 7 (.inl (by omega))]; exact hp7) (by rw [hf02.slot s (.inl hsn)]; exact hps)
   (fun i hi => by have := (hf (1 + i) (by omega)).eff hEw; rwa [show po + idx + (1 + i) = po + (idx + 1) + i by omega] at this) h1 h2 hB1 hB2 (by omega) ?_
  intro a3 w3 cs ds g1 g2 g3 g4 g5 g6 g7
  refine k a3 w3 (x :: cs) (d :: ds) (hf02.trans (g1.mono (KR.mono (by omega) (by omega)))) (by rw [hrd]; exact g2) (by simp [g3]; omega) ?_ ?_ ?_ ?_
  ·intro i u hu
   cases i with
   | zero =>
    simp only [List.getElem?_cons_zero, Option.some.injEq] at hu
    subst hu
    rw [Nat.add_zero, g6.cellSome hcell (by
     rintro (⟨h, _⟩ | ⟨_, h, _⟩)
     ·exact h1 h
     ·omega)]
   | succ j =>
    simp only [List.getElem?_cons_succ] at hu
    have := g4 j u hu
    rwa [show po + (idx + 1) + j = po + idx + (j + 1) by omega] at this
  ·simp only [Flds.Rep, hsz1, List.take_succ_cons, List.take_zero, List.drop_succ_cons, List.drop_zero]
   refine ⟨?_, g5⟩
   have hrep2 : ty.Rep w2 ⟨sb, T⟩ B [x] d := Ty.Rep.eff hE2 (by rintro j ⟨h, _⟩; exact h2 h.symm) ty w.heap.size B [x] d (by rintro k j hk _ ⟨h, _⟩; omega) hBw hrep
   refine Ty.Rep.eff g6 ?_ ty B B [x] d ?_ (Nat.le_refl _) hrep2
   ·rintro j (⟨h, _⟩ | ⟨h, _⟩)
    ·exact hr.ne h.symm
    ·exact h2 h.symm
   ·rintro k j hk _ (⟨h, _⟩ | ⟨h, _⟩) <;> omega
  ·refine (hEw.mono ?_).trans (g6.mono ?_)
   ·rintro k i _ (h | ⟨e1, e2, e3⟩)
    ·exact .inl h
    ·exact .inr ⟨e1, e2, by omega⟩
   ·rintro k i _ (h | ⟨e1, e2, e3⟩)
    ·exact .inl h
    ·exact .inr ⟨e1, by omega, by omega⟩
  ·intro h
   rw [hrd] at h ⊢
   rw [g7 h, hd (Flds.rd_mono false 0 r _ h)]
end
end Go.Km
namespace Go.Km
open Go Go.RowKit
attribute [local irreducible] vc rO_ runG runS runD
def SlF (w : World) (U : Nat) (v : Value) (fs : SFs) : Prop :=
 (v = .slice none 0 0 ∧ fs.len = 0) ∨ ∃ q o cap, v = .slice (some ⟨q, o, none⟩) fs.len cap ∧ fs.len ≤ cap ∧ q < U ∧ fs.Rep w U q o
theorem SlF.below {w w' : World} {U : Nat} {v : Value} {fs : SFs} (h : SlF w U v fs) (hw : Below U w w') : SlF w' U v fs := by
 rcases h with h | ⟨q, o, cap, h1, h2, h3, h4⟩
 ·exact .inl h
 ·exact .inr ⟨q, o, cap, h1, h2, h3, h4.below hw h3⟩
theorem OctsB.mono {W : World} {B B' : Nat} {v : Value} {l : List UInt8} (h : OctsB W B v l) (hB : B ≤ B') : OctsB W B' v l := by
 rcases h with h | ⟨q, o, cap, h1, h2, h3, h4⟩
 ·exact .inl h
 ·exact .inr ⟨q, o, cap, h1, h2, by omega, h4⟩
theorem UnkB.mono {W : World} {B B' : Nat} {v : Value} {u : List (Nat × List UInt8)} (h : UnkB W B v u) (hB : B ≤ B') : UnkB W B' v u := by
 rcases h with h | ⟨q, o, cap, h1, h2, h3, h4⟩
 ·exact .inl h
 ·refine .inr ⟨q, o, cap, h1, h2, by omega, fun i x hx => ?_⟩
  obtain ⟨sv, h0, h5, h6⟩ := h4 i x hx
  exact ⟨sv, h0, h5, h6.mono hB⟩
mutual
theorem Tr.Rep.mono {w : World} {U U' : Nat} (hU : U ≤ U') : ∀ {t : Tr} {cs : List Value}, t.Rep w U cs → t.Rep w U' cs
 | .mk n s nl l u, cs, ⟨sv, lv, uv, h1, h2, h3, h4⟩ => by
  refine ⟨sv, lv, uv, h1, h2.mono hU, h3.mono hU, ?_⟩
  rcases h4 with h4 | ⟨q, o, cap, h5, h6, h7, h8⟩
  ·exact .inl h4
  ·exact .inr ⟨q, o, cap, h5, h6, by omega, Trs.Rep.mono hU h8⟩
theorem Trs.Rep.mono {w : World} {U U' q : Nat} (hU : U ≤ U') : ∀ {l : Trs} {o : Nat}, l.Rep w U q o → l.Rep w U' q o
 | .nil, _, _ => trivial
 | .cons t r, o, ⟨⟨c, h1, h2⟩, h3⟩ => ⟨⟨c, h1, Tr.Rep.mono hU h2⟩, Trs.Rep.mono hU h3⟩
end
mutual
theorem SF.Rep.mono {w : World} {U U' : Nat} (hU : U ≤ U') : ∀ {t : SF} {cs : List Value}, t.Rep w U cs → t.Rep w U' cs
 | .mk kind fr to nul tag df el sub, cs, ⟨sv, h1, h4⟩ => by
  refine ⟨sv, h1, ?_⟩
  rcases h4 with h4 | ⟨q, o, cap, h5, h6, h7, h8⟩
  ·exact .inl h4
  ·exact .inr ⟨q, o, cap, h5, h6, by omega, SFs.Rep.mono hU h8⟩
theorem SFs.Rep.mono {w : World} {U U' q : Nat} (hU : U ≤ U') : ∀ {l : SFs} {o : Nat}, l.Rep w U q o → l.Rep w U' q o
 | .nil, _, _ => trivial
 | .cons t r, o, ⟨⟨c, h1, h2⟩, h3⟩ => ⟨⟨c, h1, SF.Rep.mono hU h2⟩, SFs.Rep.mono hU h3⟩
end
theorem SlF.mono {w : World} {U U' : Nat} {v : Value} {fs : SFs} (h : SlF w U v fs) (hU : U ≤ U') : SlF w U' v fs := by
 rcases h with h | ⟨q, o, cap, h1, h2, h3, h4⟩
 ·exact .inl h
 ·exact .inr ⟨q, o, cap, h1, h2, by omega, h4.mono hU⟩
section
variable {P : Program} {E : Env} {w : World} {U : Nat}
theorem OctsB.form {v : Value} {l : List UInt8} (h : OctsB w U v l) : ∃ ad cap, v = .slice ad l.length cap ∧ l.length ≤ cap ∧ ∀ n w', n ≤ l.length → Below U w w' → OctsB w' U (.slice ad n cap) (l.take n) := by
 rcases h with ⟨⟨ad, cap, rfl⟩, rfl⟩ | ⟨q, o, cap, rfl, hcap, hq, hc⟩
 ·refine ⟨ad, cap, rfl, Nat.zero_le _, fun n w' hn _ => ?_⟩
  simp only [List.length_nil, Nat.le_zero] at hn
  subst hn
  exact .inl ⟨⟨_, _, rfl⟩, rfl⟩
 ·refine ⟨_, cap, rfl, hcap, fun n w' hn hw => .inr ⟨q, o, cap, ?_, ?_, hq, ?_⟩⟩
  ·rw [List.length_take, Nat.min_eq_left hn]
  ·rw [List.length_take]; omega
  ·rw [List.map_take]
   exact (hc.below hw hq).take n
theorem src_empty {P : Program} {t e : TypeId} {s cap : Nat} {ad : Option Addr} {w : World} (ht : sliceT P t = some (e, s)) : Src P s t (.slice ad 0 cap) 0 [] w := by
 cases ad with
 | none => exact src_nil ht
 | some a => exact Src.ofSlice w (sliceT_inv ht).1 a 0 cap [] (by simp) (fun j u hu => by simp at hu) (fun u hu => by simp at hu)
theorem OctsB.src {v : Value} {l : List UInt8} {T e : TypeId} (hT : sliceT P T = some (e, 1)) (h : OctsB w U v l) : Src P 1 T v l.length (l.map bv) w := by
 rcases h with ⟨⟨ad, cap, rfl⟩, rfl⟩ | ⟨q, o, cap, rfl, hcap, hq, hc⟩
 ·exact src_empty hT
 ·exact src_cells hT hc (by simp) (bv_one l)
end
end Go.Km
namespace Go.Km
open Go Go.RowKit
attribute [local irreducible] vc rO_ runG runS runD
section
variable {P : Program} {a : Act} {w : World} {r : List Oper} {Q : Exit → Act → World → Prop} {U : Nat}
end
end Go.Km
namespace Go.Km
open Go Go.RowKit
attribute [local irreducible] vc rO_ runG runS runD
section
variable {P : Program} {E : Env} {w : World} {U : Nat}
end
end Go.Km
namespace Go.Km
open Go Go.RowKit
attribute [local irreducible] vc rO_ runG runS runD
def SF.kindOk : SF → Bool
 | .mk kind _ _ _ _ _ el _ => decide (0 ≤ kind) && decide (kind ≤ 11) && decide (0 ≤ el) && decide (el ≤ 10)
def SF.sub : SF → SFs
 | .mk _ _ _ _ _ _ _ sub => sub
structure FFr (P : Program) (E : Env) (w : World) (U : Nat) (ver : Int) (fx nl : Bool) (cs ts : List Value) (b : Nat) (A : Act) (W : World) : Prop where
 size : A.tmps.size = 76
 defers : A.defers = []
 s1 : A.eval (.tmp 1) = .int .i64 ver
 s2 : A.eval (.tmp 2) = .bool fx
 s4 : A.eval (.tmp 4) = .pointer (some ⟨b, 0, none⟩)
 s7 : A.eval (.tmp 7) = .pointer (some ⟨b + 1, 0, none⟩)
 s9 : A.eval (.tmp 9) = .bool nl
 below : Below U w W
 bU : U ≤ b
 bW : b + 1 < W.heap.size
 cf : Cells W b 0 cs
 ct : Cells W (b + 1) 0 ts
theorem FFr.put {P : Program} {E : Env} {w : World} {U : Nat} {ver : Int} {fx nl : Bool} {cs ts : List Value} {b : Nat} {A : Act} {W : World} (h : FFr P E w U ver fx nl cs ts b A W) {d : Nat} (v : Value) (hd : 9 < d ∨ d = 8) : FFr P E w U ver fx nl cs ts b (A.put (some d) v) W :=
  ⟨by rw [zP]; exact h.size, by rw [dF]; exact h.defers, by rw [eval_put_ne _ _ _ _ (by omega)]; exact h.s1, by rw [eval_put_ne _ _ _ _ (by omega)]; exact h.s2, by rw [eval_put_ne _ _ _ _ (by omega)]; exact h.s4,
   by rw [eval_put_ne _ _ _ _ (by omega)]; exact h.s7, by rw [eval_put_ne _ _ _ _ (by omega)]; exact h.s9, h.below, h.bU, h.bW, h.cf, h.ct⟩
section
variable {P : Program} {E : Env} {w : World} {U : Nat}
end
end Go.Km
namespace Go.Km
open Go Go.RowKit
attribute [local irreducible] vc rO_ runG runS runD
def ListB (w : World) (U : Nat) (v : Value) (L : List Tr) : Prop :=
 (NilS v ∧ L = []) ∨ ∃ q o cap, v = .slice (some ⟨q, o, none⟩) L.length cap ∧ q < U ∧ ∀ (i : Nat) (t : Tr), L[i]? = some t → ∃ c, Cells w q (o + i * 5) c ∧ t.Rep w U c
section
variable {P : Program} {E : Env} {w : World} {U : Nat}
theorem ListB.below {w w' : World} {v : Value} {L : List Tr} (h : ListB w U v L) (hw : Below U w w') : ListB w' U v L := by
 rcases h with h | ⟨q, o, cap, h1, h2, h3⟩
 ·exact .inl h
 ·refine .inr ⟨q, o, cap, h1, h2, fun i t ht => ?_⟩
  obtain ⟨c, h4, h5⟩ := h3 i t ht
  exact ⟨c, h4.below hw h2, h5.below hw⟩
theorem ListB.form {v : Value} {L : List Tr} (h : ListB w U v L) : ∃ ad cap, v = .slice ad L.length cap := by
 rcases h with ⟨⟨_, _, rfl⟩, rfl⟩ | ⟨q, o, cap, rfl, _⟩ <;> exact ⟨_, _, rfl⟩
end
end Go.Km
namespace Go.Km
open Go Go.RowKit
attribute [local irreducible] vc rO_ runG runS runD
section
variable {P : Program} {E : Env} {w : World} {U : Nat}
end
end Go.Km
namespace Go.Km
open Go Go.RowKit
attribute [local irreducible] vc rO_ runG runS runD
theorem SF.wr_list {v : Int} {fx : Bool} {fr to nul tag df el : Int} {sub : SFs} {n : Int} {s : List UInt8} {tnl : Bool} {l : Trs} {u : List (Nat × List UInt8)} (nl : Bool) (hn : (SF.mk 11 fr to nul tag df el sub).isNull v (.mk n s tnl l u) = nl) (L : List Tr) (hL : L = if nl then [] else l.toL.take 32767) :
  (SF.mk 11 fr to nul tag df el sub).wr v fx (.mk n s tnl l u) = cnt fx nl L.length 4 ++ (L.map fun t => valW el (sub.part v fx) false fx t).flatten := by
 subst hn; subst hL
 simp only [SF.wr, if_true]
 rfl
section
variable {P : Program} {E : Env}
end
end Go.Km
namespace Go.Km
open Go Go.RowKit
attribute [local irreducible] vc rO_ runG runS runD
theorem SFs.tags_len : ∀ fs : SFs, fs.tags.length = fs.len
 | .nil => rfl
 | .cons (.mk _ _ _ _ _ _ _ _) r => by simp [SFs.tags, SFs.len, SFs.tags_len r]
def SF.tag : SF → Int
 | .mk _ _ _ _ tag _ _ _ => tag
section
variable {P : Program} {a : Act} {w : World} {r : List Oper} {Q : Exit → Act → World → Prop}
end
section
variable {P : Program} {E : Env} {w : World} {U : Nat}
end
end Go.Km
namespace Go.Km
open Go Go.RowKit
attribute [local irreducible] vc rO_ runG runS runD
section
variable {P : Program} {E : Env} {w : World} {U : Nat}
end
end Go.Km
namespace Go.Km
open Go Go.RowKit
attribute [local irreducible] vc rO_ runG runS runD
theorem UnkB.form {w : World} {U : Nat} {v : Value} {u : List (Nat × List UInt8)} (h : UnkB w U v u) : ∃ ad cap, v = .slice ad u.length cap := by
 rcases h with ⟨⟨_, _, rfl⟩, rfl⟩ | ⟨q, o, cap, rfl, _⟩ <;> exact ⟨_, _, rfl⟩
theorem Cells.grown {w w' : World} {b o : Nat} {cs : List Value} {row : Option Nat} (h : Cells w b o cs) (hg : w.grownBy w' row) (hb : b < w.heap.size) (hne : some b ≠ row) : Cells w' b o cs := by
 intro i v hv
 have := h i v hv
 have e : w'.heap[b]? = w.heap[b]? := hg.block b hb hne
 simp only [World.cell?] at this ⊢
 rw [e]
 exact this
section
variable {P : Program} {a : Act} {w : World} {r : List Oper} {Q : Exit → Act → World → Prop}
end
section
variable {P : Program} {E : Env} {w : World} {U : Nat}
end
end Go.Km
namespace Go.Km
open Go Go.RowKit
attribute [local irreducible] vc rO_ runG runS runD
def Rec.out (r : Rec) : List UInt8 := if r.1 < 0 && r.2.1 then r.2.2.2 else []
def Tr.tags : Tr → List (Nat × List UInt8)
 | .mk _ _ _ _ u => u
section
variable {P : Program} {E : Env} {w : World} {U : Nat}
end
end Go.Km
namespace Go.Km
open Go Go.RowKit
attribute [local irreducible] vc rO_ runG runS runD
def pos (x : Nat) (l : List (Nat × List UInt8)) : Nat := (l.takeWhile fun y => decide (y.1 < x)).length
abbrev UE := (Nat × List UInt8) × Value
def fl : List UE → List Value
 | [] => []
 | e :: r => .int .u32 (e.1.1 : Int) :: e.2 :: fl r
theorem fl_len : ∀ l, (fl l).length = l.length * 2
 | [] => rfl
 | e :: r => by simp [fl, fl_len r]; omega
theorem fl_get0 : ∀ (l : List UE) (i : Nat) (e : UE), l[i]? = some e → (fl l)[i * 2]? = some (.int .u32 (e.1.1 : Int))
 | [], i, e, h => by simp at h
 | x :: r, 0, e, h => by simp at h; subst h; rfl
 | x :: r, i + 1, e, h => by
  have := fl_get0 r i e (by simpa using h)
  rw [show (i + 1) * 2 = i * 2 + 1 + 1 by omega]
  simpa [fl] using this
theorem fl_get1 : ∀ (l : List UE) (i : Nat) (e : UE), l[i]? = some e → (fl l)[i * 2 + 1]? = some e.2
 | [], i, e, h => by simp at h
 | x :: r, 0, e, h => by simp at h; subst h; rfl
 | x :: r, i + 1, e, h => by
  have := fl_get1 r i e (by simpa using h)
  rw [show (i + 1) * 2 + 1 = i * 2 + 1 + 1 + 1 by omega]
  simpa [fl] using this
theorem own_cells2 {w : World} {B : Nat} {e : TypeId} {g n cap i : Nat} {l : List UE} {x : UE} (h : w.ownsRow B e 2 (.slice (some ⟨g, 0, none⟩) n cap) n (fl l)) (hx : l[i]? = some x) : Cells w g (i * 2) [.int .u32 (x.1.1 : Int), x.2] := by
 have hl := h.1
 rw [fl_len] at hl
 have hi : i < l.length := by
  rcases Nat.lt_or_ge i l.length with h | h
  ·exact h
  ·rw [List.getElem?_eq_none h] at hx; cases hx
 intro j v hv
 match j, hv with
 | 0, hv =>
  simp only [List.getElem?_cons_zero, Option.some.injEq] at hv
  subst hv
  rw [Nat.add_zero, h.cellAt _ (by omega)]
  exact fl_get0 l i x hx
 | 1, hv =>
  simp only [List.getElem?_cons_succ, List.getElem?_cons_zero, Option.some.injEq] at hv
  subst hv
  rw [h.cellAt _ (by omega)]
  exact fl_get1 l i x hx
theorem own_form2 {w : World} {B : Nat} {e : TypeId} {v : Value} {n : Nat} {xs : List Value} (h : w.ownsRow B e 2 v n xs) : (v = .slice none 0 0 ∧ n = 0) ∨ ∃ g cap, v = .slice (some ⟨g, 0, none⟩) n cap ∧ n ≤ cap ∧ B ≤ g ∧ g < w.heap.size := by
 rcases h.2 with h' | ⟨g, cap, cur, h1, h2, h3, h4, _⟩
 ·exact .inl h'
 ·exact .inr ⟨g, cap, h1, h4, h2, (Array.getElem?_eq_some_iff.1 h3).1⟩
section
variable {P : Program} {E : Env} {w : World} {U : Nat}
end
end Go.Km
namespace Go.Km
open Go Go.RowKit
attribute [local irreducible] vc rO_ runG runS runD
section
variable {P : Program} {E : Env} {w : World} {U : Nat}
end
end Go.Km
namespace Go.Km
open Go Go.RowKit
attribute [local irreducible] vc rO_ runG runS runD
theorem UnkB.of_own {w w' : World} {U B : Nat} {e : TypeId} {v : Value} {es : List UE} (h : w'.ownsRow B e 2 v es.length (fl es)) (hok : ∀ x ∈ es, x.1.1 < 4294967296 ∧ OctsB w U x.2 x.1.2) (hU : U ≤ w.heap.size) (hw : Below U w w') : UnkB w' w'.heap.size v (es.map (·.1)) := by
 have hUw : U ≤ w'.heap.size := Nat.le_trans hU hw.size
 rcases own_form2 h with ⟨rfl, h0⟩ | ⟨g, cap, rfl, hc, _, hg⟩
 ·refine .inl ⟨nilS, ?_⟩
  rw [List.eq_nil_of_length_eq_zero h0]
  rfl
 ·refine .inr ⟨g, 0, cap, by rw [List.length_map], by rw [List.length_map]; exact hc, hg, fun i x hx => ?_⟩
  rw [List.getElem?_map] at hx
  cases hi : es[i]? with
  | none => rw [hi] at hx; cases hx
  | some e =>
   rw [hi, Option.map_some, Option.some.injEq] at hx
   subst hx
   obtain ⟨h1, h2⟩ := hok e (List.mem_of_getElem? hi)
   exact ⟨e.2, h1, by rw [Nat.zero_add]; exact own_cells2 h hi, (h2.below hw).mono hUw⟩
section
variable {P : Program} {E : Env} {w : World} {U : Nat}
end
end Go.Km
namespace Go.Km
open Go Go.RowKit
mutual
def SF.good : SF → Bool
 | .mk kind fr to nul tag df el sub => (SF.mk kind fr to nul tag df el sub).kindOk && decide (tag < 0) && decide (sub.len ≤ 65536) && sub.good
def SFs.good : SFs → Bool
 | .nil => true
 | .cons f r => f.good && r.good
end
section
variable {P : Program} {E : Env}
end
end Go.Km
namespace Go.Km
open Go Go.RowKit
attribute [local irreducible] vc rO_ runG runS runD
section
variable {P : Program} {a : Act} {w : World} {r : List Oper} {Q : Exit → Act → World → Prop}
end
mutual
def Tr.RepD (w : World) (S : Nat → Prop) : Tr → List Value → Prop
 | .mk n s nl l u, cs => s = [] ∧ u = [] ∧ ∃ lv, cs = [.int .i64 n, .slice none 0 0, .bool nl, lv, .slice none 0 0] ∧
   ((lv = .slice none 0 0 ∧ l.len = 0) ∨ ∃ q cap, lv = .slice (some ⟨q, 0, none⟩) l.len cap ∧ l.len ≤ cap ∧ S q ∧ l.RepD w S q 0)
def Trs.RepD (w : World) (S : Nat → Prop) (q : Nat) : Trs → Nat → Prop
 | .nil, _ => True
 | .cons t r, o => (∃ c, Cells w q o c ∧ t.RepD w S c) ∧ r.RepD w S q (o + 5)
end
theorem Cells.same {w w' : World} {q o : Nat} {cs : List Value} (h : Cells w q o cs) (he : w'.heap[q]? = w.heap[q]?) : Cells w' q o cs := by
 intro i v hv
 have := h i v hv
 simp only [World.cell?] at this ⊢
 rw [he]
 exact this
mutual
theorem Tr.RepD.keep {w w' : World} {S S' : Nat → Prop} (hk : ∀ q, S q → w'.heap[q]? = w.heap[q]?) (hS : ∀ q, S q → S' q) : ∀ {t : Tr} {cs : List Value}, t.RepD w S cs → t.RepD w' S' cs
 | .mk n s nl l u, cs, ⟨h1, h2, lv, h3, h4⟩ => by
  refine ⟨h1, h2, lv, h3, ?_⟩
  rcases h4 with h4 | ⟨q, cap, h5, h6, h7, h8⟩
  ·exact .inl h4
  ·exact .inr ⟨q, cap, h5, h6, hS q h7, Trs.RepD.keep hk hS h7 h8⟩
theorem Trs.RepD.keep {w w' : World} {S S' : Nat → Prop} (hk : ∀ q, S q → w'.heap[q]? = w.heap[q]?) (hS : ∀ q, S q → S' q) {q : Nat} (hq : S q) : ∀ {l : Trs} {o : Nat}, l.RepD w S q o → l.RepD w' S' q o
 | .nil, _, _ => trivial
 | .cons t r, o, ⟨⟨c, h1, h2⟩, h3⟩ => ⟨⟨c, h1.same (hk q hq), Tr.RepD.keep hk hS h2⟩, Trs.RepD.keep hk hS hq h3⟩
end
mutual
theorem Tr.RepD.rep {w : World} {S : Nat → Prop} {U : Nat} (hS : ∀ q, S q → q < U) : ∀ {t : Tr} {cs : List Value}, t.RepD w S cs → t.Rep w U cs
 | .mk n s nl l u, cs, ⟨h1, h2, lv, h3, h4⟩ => by
  refine ⟨.slice none 0 0, lv, .slice none 0 0, h3, .inl ⟨nilS, h1⟩, .inl ⟨nilS, h2⟩, ?_⟩
  rcases h4 with ⟨rfl, h4⟩ | ⟨q, cap, h5, h6, h7, h8⟩
  ·exact .inl ⟨nilS, h4⟩
  ·exact .inr ⟨q, 0, cap, h5, h6, hS q h7, Trs.RepD.rep hS h8⟩
theorem Trs.RepD.rep {w : World} {S : Nat → Prop} {U q : Nat} (hS : ∀ q, S q → q < U) : ∀ {l : Trs} {o : Nat}, l.RepD w S q o → l.Rep w U q o
 | .nil, _, _ => trivial
 | .cons t r, o, ⟨⟨c, h1, h2⟩, h3⟩ => ⟨⟨c, h1, Tr.RepD.rep hS h2⟩, Trs.RepD.rep hS h3⟩
end
theorem Tr.RepD.len {w : World} {S : Nat → Prop} {t : Tr} {cs : List Value} (h : t.RepD w S cs) : cs.length = 5 := by
 cases t with
 | mk n s nl l u => obtain ⟨_, _, _, rfl, _⟩ := h; rfl
theorem Tr.RepD.one {w : World} {S : Nat → Prop} {t : Tr} {cs : List Value} (h : t.RepD w S cs) : ∀ v ∈ cs, v.oneCell' = true := by
 cases t with
 | mk n s nl l u =>
  obtain ⟨_, _, lv, rfl, h3⟩ := h
  have e3 : lv.oneCell' = true := by rcases h3 with ⟨rfl, _⟩ | ⟨q, cap, rfl, _⟩ <;> rfl
  intro v hv
  simp only [List.mem_cons, List.not_mem_nil, or_false] at hv
  rcases hv with rfl | rfl | rfl | rfl | rfl <;> first | rfl | assumption
theorem Free.below {w w' : World} {B b o : Nat} (h : Free w b o) (hb : Below B w w') (hB : b < B) : Free w' b o :=
 ⟨by rw [hb.cell (p := ⟨b, o, none⟩) hB]; exact h.1, by rw [hb.frozen (p := ⟨b, o, none⟩) hB]; exact h.2⟩
end Go.Km
namespace Go.Km
open Go Go.RowKit
attribute [local irreducible] vc rO_ runG runS runD
def SF.kind : SF → Int
 | .mk kind _ _ _ _ _ _ _ => kind
def SF.df : SF → Int
 | .mk _ _ _ _ _ df _ _ => df
def SF.nul : SF → Int
 | .mk _ _ _ nul _ _ _ _ => nul
section
variable {P : Program} {E : Env} {w : World} {U : Nat}
end
end Go.Km
namespace Go.Km
open Go Go.RowKit
section
variable {P : Program} {E : Env}
end
end Go.Km
namespace Go.Km
open Go Go.RowKit
attribute [local irreducible] vc rO_ runG runS runD
abbrev FE := SF × Option FuncId
def SF.parts : SF → Option Operand → List (Nat × Operand)
 | .mk kind fr to nul tag df el _, x => [(0, .const (.int .i64 kind))] ++ (if fr = 0 then [] else [(1, .const (.int .i64 fr))]) ++ [(2, .const (.int .i64 to)), (3, .const (.int .i64 nul)), (4, .const (.int .i64 tag))] ++
   (if df = 0 then [] else [(5, .const (.int .i64 df))]) ++ (if el = 0 then [] else [(6, .const (.int .i64 el))]) ++ (match x with | none => [] | some x => [(7, x)])
def FVals (A : Act) (W : World) : List Nat → List FE → Prop
 | [], [] => True
 | s :: ss, f :: fs => (∃ cells : List Value, A.eval (.tmp s) = .agg cells.toArray ∧ f.1.Rep W W.heap.size cells) ∧ FVals A W ss fs
 | _, _ => False
theorem FVals.keep {A A' : Act} {W W' : World} (hW : Below W.heap.size W W') : ∀ {ss : List Nat} {l : List FE}, (∀ s ∈ ss, A'.eval (.tmp s) = A.eval (.tmp s)) → FVals A W ss l → FVals A' W' ss l
 | [], [], _, _ => trivial
 | s :: ss, f :: l, hs, ⟨⟨c, h1, h2⟩, h3⟩ => ⟨⟨c, by rw [hs s (by simp)]; exact h1, (h2.below hW).mono hW.size⟩, FVals.keep hW (fun s h => hs s (by simp [h])) h3⟩
 | [], _ :: _, _, h => h.elim
 | _ :: _, [], _, h => h.elim
section
variable {P : Program} {E : Env}
end
end Go.Km
namespace Go.Km
open Go Go.RowKit
attribute [local irreducible] vc rO_ runG runS runD
def Reps (W : World) (U : Nat) : List (List Value) → List FE → Prop
 | [], [] => True
 | c :: cs, f :: l => f.1.Rep W U c ∧ Reps W U cs l
 | _, _ => False
theorem Reps.len {W : World} {U : Nat} : ∀ {cs : List (List Value)} {l : List FE}, Reps W U cs l → cs.length = l.length ∧ ∀ c ∈ cs, c.length = 8
 | [], [], _ => ⟨rfl, by simp⟩
 | c :: cs, f :: l, ⟨h1, h2⟩ => by
  obtain ⟨h3, h4⟩ := Reps.len h2
  refine ⟨by simp [h3], fun x hx => ?_⟩
  rcases List.mem_cons.1 hx with rfl | hx
  ·exact h1.len
  ·exact h4 x hx
 | [], _ :: _, h => h.elim
 | _ :: _, [], h => h.elim
theorem Reps.below {W W' : World} {U U' : Nat} (hW : Below U W W') (hU : U ≤ U') : ∀ {cs : List (List Value)} {l : List FE}, Reps W U cs l → Reps W' U' cs l
 | [], [], _ => trivial
 | c :: cs, f :: l, ⟨h1, h2⟩ => ⟨(h1.below hW).mono hU, Reps.below hW hU h2⟩
 | [], _ :: _, h => h.elim
 | _ :: _, [], h => h.elim
theorem FVals.cells {A : Act} {W : World} : ∀ {ss : List Nat} {l : List FE}, FVals A W ss l → ∃ cs : List (List Value), (ss.map fun s => A.eval (.tmp s)) = cs.map (fun c => Value.agg c.toArray) ∧ Reps W W.heap.size cs l
 | [], [], _ => ⟨[], rfl, trivial⟩
 | s :: ss, f :: l, ⟨⟨c, h1, h2⟩, h3⟩ => by
  obtain ⟨cs, h4, h5⟩ := FVals.cells h3
  exact ⟨c :: cs, by simp only [List.map_cons, h1, h4], h2, h5⟩
 | [], _ :: _, h => h.elim
 | _ :: _, [], h => h.elim
section
variable {P : Program} {E : Env}
end
end Go.Km
namespace Go.Km
open Go Go.RowKit
attribute [local irreducible] vc rO_ runG runS runD
section
variable {P : Program} {E : Env} {w : World} {U : Nat}
end
end Go.Km
namespace Go.Km
open Go Go.RowKit
attribute [local irreducible] vc rO_ runG runS runD
end Go.Km
namespace Go.Km
open Go Go.RowKit
section
variable {P : Program} {a : Act} {w : World} {Q : Exit → Act → World → Prop} {ops : List Oper} {S : World → Prop}
end
attribute [local irreducible] vc rO_ runG runS runD
section
variable {P : Program} {E : Env}
end
end Go.Km
namespace Go.Km
open Go Go.RowKit
attribute [local irreducible] vc rO_ runG runS runD
section
variable {P : Program} {E : Env} {T : List (Nat × List UInt8) → Prop}
end
end Go.Km
namespace Go.Km
open Go Go.RowKit
attribute [local irreducible] vc rO_ runG runS runD
section
variable {P : Program} {E : Env}
end
end Go.Km
namespace Go.Km
open Go Go.RowKit
attribute [local irreducible] vc rO_ runG runS runD
section
variable {P : Program} {E : Env}
end
end Go.Km
namespace Go.Km
open Go Go.RowKit
attribute [local irreducible] vc rO_ runG runS runD
section
variable {P : Program} {E : Env} {T : List (Nat × List UInt8) → Prop}
theorem c_skip_ok {f : FuncId} (ht : Text P f 1 2 #[] .skip) (x : Value) (w : World) : CallsV P f #[x] w fun _ w' => w' = w := by
 refine CallsV.enter ht (by simp) ?_
 intro a hsz hdf harg
 refine vK ?_
 exact ⟨hdf, .tuple #[], by simp [results], rfl⟩
end
end Go.Km
namespace Go.Km
open Go Go.RowKit
attribute [local irreducible] vc rO_ runG runS runD
def c_readO (E : Env) (TP TU : TypeId) (FD : FuncId) (fs : Flds) : Code :=
 sq ([rg [oAssign 6 (.const .nilIface) E.tErr],
  rg [oMove (9 + fs.ln) (.tmp 0) TP, oCall (some (9 + fs.ln + 1)) FD #[.tmp (9 + fs.ln)] #[TP] 0],
  rg [oMove (9 + fs.ln + 2) (.tmp 1) E.tB, oBuild (9 + fs.ln + 3) E.tRd #[(0, .tmp (9 + fs.ln + 2))], oAlloc 7 E.tRd, oStore E.tRd (.tmp 7) (.tmp (9 + fs.ln + 3))],
  rg [oMove (9 + fs.ln + 4) (.tmp 0) TP, oAssign 8 (.tmp (9 + fs.ln + 4)) TP]] ++ (fs.oc E TP TU 8 0 9 (9 + fs.ln + 5) ++ [rCall E E.rComplete E.tErr 6 (9 + fs.ln + 5 + 5 * fs.ln), .ret]))
section
variable {P : Program} {E : Env} {T : List (Nat × List UInt8) → Prop}
set_option maxHeartbeats 1000000 in
theorem c_readO_ok (H : EnvR P E T) (HX : EnvRX P E) {TP TU : TypeId} {FD f : FuncId} {fs : Flds} {np : Nat} (ht : Text P f np (9 + fs.ln + 5 + 5 * fs.ln + 1) #[.tmp 6] (c_readO E TP TU FD fs)) (hd : Text P FD 1 2 #[] .skip) (hok : fs.okO P E TU 0 = true) {mb sb : Nat} {ev sv : Value} {l : List UInt8} {w : World}
  (hf : ∀ i, i < fs.ln → Free w mb i) (hmb : mb < w.heap.size) (hs : SrcV w sb sv l) (hsb : sb < w.heap.size) (hl : l.length ≤ big) (he : w.cell? ⟨E.vErr, 0, none⟩ = some ev) (hm2 : mb ≠ sb) (hm3 : mb ≠ E.vErr) :
  CallsV P f #[.pointer (some ⟨mb, 0, none⟩), sv, .bool false] w fun v w' => v = (if (fs.rd false 0 (l, false)).2.2.2 then ev else .nilIface) ∧ Eff (fun k _ => k = mb) w w' ∧
   ∃ cs ds, cs.length = fs.ln ∧ Cells w' mb 0 cs ∧ fs.Rep w' ⟨sb, T⟩ w.heap.size cs ds [] ∧ ((fs.rd false 0 (l, false)).2.2.2 = false → ds = (fs.rd false 0 (l, false)).1) := by
 refine CallsV.enter ht (by simp; omega) ?_
 intro a hsz hdf harg
 have e0 := harg 0 (.pointer (some ⟨mb, 0, none⟩)) (by simp)
 have e1 := harg 1 sv (by simp)
 obtain ⟨zr, hzr, hzrc⟩ := lays_zero HX.rd
 have hsv1 := hs.one
 have hsvc : sv.cells = #[sv] := by
  obtain ⟨ad, cap, rfl, _⟩ := hs.form
  rfl
 unfold c_readO
 simp only [List.cons_append, List.nil_append]
 generalize hL : 9 + fs.ln = L at *
 refine vX (rA (dn (vX (rM ?_))))
 refine r_call' (args := #[.pointer (some ⟨mb, 0, none⟩)]) ?_ (c_skip_ok hd _ w) ?_
 ·simp only [lM]
  simp (disch := (try simp only [sP]); omega) only [eV, e0]
 rintro v1 w1 rfl
 refine dn (vX (rM ?_))
 generalize hA : Act.put _ (some (L + 2)) _ = A
 have hfA : Fr (fun k => k = 0 ∨ k = 1) a A := by
  subst hA
  exact ((((Fr.refl _ a).put _ (by omega)).put _ (by omega)).put _ (by omega)).put _ (by omega)
 have hAv : A.eval (.tmp (L + 2)) = sv := by subst hA; simp (disch := (try simp only [sP]); omega) only [eV, e1]
 have hsA := hfA.size
 clear hA
 refine r_build (cells := #[sv, .bool false]) HX.rd ?_ ?_
 ·simp [Instr.fill, hAv, hsvc]
 refine r_alloc hzr ?_
 have hfree : ∀ i, i < [sv, Value.bool false].length → Free (w1.alloc (.cells zr.cells E.tRd)) w1.heap.size (0 + i) := by
  intro i hi
  rw [Nat.zero_add]
  exact free_new w1 _ _ (by rw [hzrc]; simpa using hi)
 refine r_storeAgg (b := w1.heap.size) (o := 0) (cs := [sv, .bool false]) (by simp (disch := (try simp only [sP]); omega) only [eV]) (by simp (disch := (try simp only [sP]); omega) only [eV]) (by intro v hv; simp only [List.mem_cons, List.not_mem_nil, or_false] at hv; rcases hv with rfl | rfl; exact hsv1; rfl) HX.rdA hfree ?_
 refine dn ?_
 have hcb : Cells (setCells (w1.alloc (.cells zr.cells E.tRd)) w1.heap.size 0 [sv, .bool false]) w1.heap.size 0 [sv, .bool false] :=
  fun i v hv => setCells_cell _ _ _ _ (fun j hj => (hfree j hj).1) i v hv
 have hE2 := setCells_eff w1.heap.size [sv, .bool false] (w1.alloc (.cells zr.cells E.tRd)) 0
 have hb2 : Below w1.heap.size w1 (setCells (w1.alloc (.cells zr.cells E.tRd)) w1.heap.size 0 [sv, .bool false]) :=
  ((Below.refl w1.heap.size w1).alloc (o := .cells _ _) (Nat.le_refl _)).trans (hE2.below (by simp) (by rintro k i hk ⟨rfl, _, _⟩; omega))
 have hz2 : w1.heap.size < (setCells (w1.alloc (.cells zr.cells E.tRd)) w1.heap.size 0 [sv, .bool false]).heap.size := by
  have := hE2.size
  simp at this
  omega
 have hfr2 : ∀ i, i < 2 → Free (setCells (w1.alloc (.cells zr.cells E.tRd)) w1.heap.size 0 [sv, .bool false]) w1.heap.size i := fun i hi => by
  have := (hfree i (by simpa using hi)).eff hE2
  rwa [Nat.zero_add] at this
 generalize setCells (w1.alloc (.cells zr.cells E.tRd)) w1.heap.size 0 [sv, .bool false] = w2 at *
 have hE02 : Eff (fun k _ => k = mb) w1 w2 := Eff.of_below hb2
 generalize hrb : w1.heap.size = rb at *
 generalize ha2 : Act.put _ (some 7) _ = a2
 have hf2 : Fr (fun k => k = 0 ∨ k = 1) a a2 := by
  subst ha2
  exact (hfA.put _ (by omega)).put _ (by omega)
 have h27 : a2.eval (.tmp 7) = .pointer (some ⟨rb, 0, none⟩) := by subst ha2; simp (disch := (try simp only [sP]); omega) only [eV]
 have h20 : a2.eval (.tmp 0) = .pointer (some ⟨mb, 0, none⟩) := by rw [hf2.slot 0 (by omega)]; exact e0
 have hs2z := hf2.size
 have hd2 : a2.defers = [] := by rw [hf2.defers]; exact hdf
 clear ha2
 have hrd : RdS w2 rb sb (l, false) := ⟨by omega, by omega, ⟨sv, hcb, hs.heap (hb2.block sb (by omega))⟩, hfr2 0 (by omega), hfr2 1 (by omega), hl⟩
 have hevlt : E.vErr < rb := by rw [← hrb]; exact lt_of_cell he
 have hev2 : w2.cell? ⟨E.vErr, 0, none⟩ = some ev := hE02.cellSome he (by rintro h; exact hm3 h.symm)
 refine vX (rM (rA (dn ?_)))
 generalize ha3 : Act.put _ (some 8) _ = a3
 have hf3 : Fr (fun k => k = 0 ∨ k = 1 ∨ k = 7) a2 a3 := by
  subst ha3
  exact ((Fr.refl _ a2).put _ (by omega)).put _ (by omega)
 have h37 : a3.eval (.tmp 7) = .pointer (some ⟨rb, 0, none⟩) := by rw [hf3.slot 7 (by omega)]; exact h27
 have h38 : a3.eval (.tmp 8) = .pointer (some ⟨mb, 0, none⟩) := by subst ha3; simp (disch := (try simp only [sP]); omega) only [eV, h20]
 have hs3z := hf3.size
 have hd3 : a3.defers = [] := by rw [hf3.defers]; exact hd2
 clear ha3
 refine vc_sq_append (o_flds H fs L TP TU 8 0 9 (L + 5) rb sb mb 0 w2.heap.size a3 w2 (l, false) _ hok (by omega) (by omega) (by omega) (by omega) (by omega) hrd h37 h38 (fun i hi => ?_) (by omega) hm2 (by omega) (by omega) (Nat.le_refl _) ?_)
 ·rw [show 0 + 0 + i = i by omega]
  exact (hf i hi).eff hE02
 intro a4 w4 cs ds hf4 hr4 hcl hcc hrep hE4 hds
 have h47 : a4.eval (.tmp 7) = .pointer (some ⟨rb, 0, none⟩) := by rw [hf4.slot 7 (.inl (by omega))]; exact h37
 have hz4 := hf4.size
 have hd4 : a4.defers = [] := by rw [hf4.defers]; exact hd3
 have hev4 : w4.cell? ⟨E.vErr, 0, none⟩ = some ev := hE4.cellSome hev2 (by
  rintro (⟨h, _⟩ | ⟨h, _⟩)
  ·omega
  ·exact hm3 h.symm)
 refine vX ?_
 refine r_call' (args := #[.pointer (some ⟨rb, 0, none⟩)]) ?_ (H.complete rb sb _ w4 ev hr4 hev4) ?_
 ·simp only [lM]
  simp (disch := (try simp only [sP]); omega) only [eV, h47]
 rintro v7 w7 ⟨rfl, rfl⟩
 refine rA (dn (vS (vT ?_)))
 have hw2 := hb2.size
 have hE04 : Eff (fun k _ => k = mb) w1 w7 := hE02.trans' hE4 (by
  rintro k i hk (⟨h, _⟩ | ⟨h, _⟩)
  ·omega
  ·exact h)
 refine ⟨by simp only [dF]; exact hd4, _, rO (by simp (disch := (try simp only [sP]); omega) only [eV]), rfl, hE04, cs, ds, hcl, by simpa using hcc, ?_, hds⟩
 exact Flds.Rep.eff (Eff.refl (fun _ _ => False) w7) (fun _ h => h) fs w2.heap.size rb cs ds [] (fun _ _ _ _ h => h) (by omega) hrep
theorem c_rfO_ok {m : Msg} {f RF : FuncId} {np nt : Nat} (ht : Text P f np nt #[.tmp 4] (c_rfw E m RF)) (hn : 8 ≤ nt) {x y : Value} {w : World} {S : Value → World → Prop} (hc : CallsV P RF #[x, y, .bool false] w S) : CallsV P f #[x, y] w S := by
 refine CallsV.enter ht (by simp; omega) ?_
 intro a hsz hdf harg
 have e0 := harg 0 x (by simp)
 have e1 := harg 1 y (by simp)
 unfold c_rfw
 refine vX (rA (dn (vX (rM (rM ?_)))))
 refine r_call' (args := #[x, y, .bool false]) ?_ hc ?_
 ·simp only [lM]
  simp (disch := (try simp only [sP]); omega) only [eV, e0, e1]
 intro v w' hS
 refine rA (dn (vS (vT ?_)))
 exact ⟨by simp only [dF]; exact hdf, v, rO (by simp (disch := (try simp only [sP]); omega) only [eV]), hS⟩
theorem c_own_ok {C : OC} {f : FuncId} {np nt : Nat} (ht : Text P f np nt #[.tmp 2] (c_own E C)) (hn : 5 ≤ nt) (HB : rowB P E.tB E.tU8 1 = true) {sv : Value} {l : List UInt8} {w : World} (hin : BytesIn P E w sv l) (hl : l.length ≤ big) :
  CallsV P f #[sv] w fun v w' => w'.ownsRow w.heap.size E.tU8 1 v l.length (l.map bv) ∧ Below w.heap.size w w' := by
 refine CallsV.enter ht (by simp; omega) ?_
 intro a hsz hdf harg
 have e0 := harg 0 sv (by simp)
 unfold c_own
 refine vX (rA (dn (vX (rM ?_))))
 refine r_append (U := w.heap.size) (v := .slice none 0 0) (n := 0) (xs := []) (u := sv) (m := l.length) (news := l.map bv) HB rfl (by simp (disch := (try simp only [sP]); omega) only [eV, e0]) (World.ownsRow_nil _ _ _ _) (Nat.le_refl _) (hin.2 _ (Below.refl _ _)) (by omega) ?_
 intro v w' hown hb
 rw [Nat.zero_add, List.nil_append] at hown
 refine rA (dn (vS (vT ?_)))
 exact ⟨by simp only [dF]; exact hdf, v, rO (by simp (disch := (try simp only [sP]); omega) only [eV]), hown, hb⟩
end
end Go.Km
namespace Go.Km
open Go Go.RowKit
attribute [local irreducible] vc rO_ runG runS runD
structure OX where
 off : Int
 size : Int
 crc : Int
 mag : Int
 att : Int
 time : Int
 kn : Bool
 k : List UInt8
 vn : Bool
 v : List UInt8
def OX.cells (X : OX) (kv vv : Value) : List Value := [.int .i64 X.off, .int .i32 X.size, .int .i32 X.crc, .int .i8 X.mag, .int .i8 X.att, .int .i64 X.time, .bool X.kn, kv, .bool X.vn, vv]
def OX.Rep (P : Program) (E : Env) (w : World) (X : OX) (cs : List Value) : Prop := ∃ kv vv, cs = X.cells kv vv ∧ BytesIn P E w kv X.k ∧ BytesIn P E w vv X.v
def OX.ok (X : OX) : Prop := Scal.i64.ok X.off ∧ Scal.i32.ok X.size ∧ Scal.i32.ok X.crc ∧ Scal.i8.ok X.mag ∧ Scal.i8.ok X.att ∧ Scal.i64.ok X.time
def octW (n : Bool) (l : List UInt8) : List UInt8 := wrNBytes false (if n then none else some l)
def OX.wr (one : Bool) (X : OX) : List UInt8 :=
 be 8 X.off ++ be 4 X.size ++ be 4 X.crc ++ (be 1 X.mag ++ be 1 X.att) ++ (if one then be 8 X.time else []) ++ octW X.kn X.k ++ octW X.vn X.v
structure OT (P : Program) (E : Env) (C : OC) : Prop where
 row : rowB P E.tB E.tU8 1 = true
 mixed : P.follows .mixedOrders = true
 oB : oneT P E.tB = true
 oO : oneT P E.tO = true
 o64 : oneT P E.tI64 = true
 o32 : oneT P E.tI32 = true
 o8 : oneT P E.tI8 = true
 oU8 : oneT P E.tU8 = true
 aOct : aggT P C.tOct = some 2
 aOld : aggT P C.tOld = some 10
 c0 : fieldOff P C.tOct 0 = some 0
 c1 : fieldOff P C.tOct 1 = some 1
 f0 : fieldOff P C.tOld 0 = some 0
 f1 : fieldOff P C.tOld 1 = some 1
 f2 : fieldOff P C.tOld 2 = some 2
 f3 : fieldOff P C.tOld 3 = some 3
 f4 : fieldOff P C.tOld 4 = some 4
 f5 : fieldOff P C.tOld 5 = some 5
 f6 : fieldOff P C.tOld 6 = some 6
 f7 : fieldOff P C.tOld 7 = some 8
 lOct : lays P C.tOct = some ([(0, 1), (1, 1)], #[.bool false, .slice none 0 0])
 lOld : lays P C.tOld = some ([(0, 1), (1, 1), (2, 1), (3, 1), (4, 1), (5, 1), (6, 2), (8, 2)], #[.int .i64 0, .int .i32 0, .int .i32 0, .int .i8 0, .int .i8 0, .int .i64 0, .bool false, .slice none 0 0, .bool false, .slice none 0 0])
 u8 : intT P E.tU8 = some .u8
 i8 : intT P E.tI8 = some .i8
 i32 : intT P E.tI32 = some .i32
 i64 : intT P E.tI64 = some .i64
 int : intT P E.tI = some .i64
 u16 : intT P E.tU16 = some .u16
 fixed : Text P E.sFixed 2 22 #[.tmp 4] (c_sFixed E)
 same : Text P E.sSame 2 26 #[.tmp 4] (c_sSame E)
 tf8 : Text P C.f8 1 7 #[.tmp 2] (c_zzFits8 E C)
 tf13 : Text P C.f13 1 11 #[.tmp 2] (c_zzFits13 E C)
 tfits : Text P C.fits 1 13 #[.tmp 2] (c_ofits E C)
 town : Text P C.own 1 5 #[.tmp 2] (c_own E C)
 tocts : Text P C.octets 1 10 #[.cell 2 C.tOct] (c_octets E C)
 tfoct : Text P C.fOct 1 13 #[.tmp 2] (c_fixedOctets E C)
 toldB : Text P C.oldB 2 45 #[.tmp 4] (c_oldBytes E C)
 tsold : Text P C.sold 2 10 #[.tmp 4] (c_sameOld E C)
section
variable {P : Program} {E : Env} {C : OC}
theorem boxed {w : World} {cs : List Value} {T : TypeId} : Below w.heap.size w (w.alloc (.cells (Value.agg cs.toArray).cells T)) ∧ Cells (w.alloc (.cells (Value.agg cs.toArray).cells T)) w.heap.size 0 cs ∧ (w.alloc (.cells (Value.agg cs.toArray).cells T)).heap.size = w.heap.size + 1 := by
 refine ⟨(Below.refl _ w).alloc (o := .cells _ _) (Nat.le_refl _), fun i v hv => ?_, by simp⟩
 rw [Nat.zero_add]
 exact cells_new w _ T (by simpa [Value.cells] using hv)
theorem c_f8_ok (H : OT P E C) {n : Bool} {kv : Value} {l : List UInt8} {w : World} (hin : BytesIn P E w kv l) : CallsV P C.f8 #[.agg [.bool n, kv].toArray] w fun v w' => v = .bool (decide (l.length ≤ 2147483647)) ∧ Below w.heap.size w w' := by
 obtain ⟨ad, cap, rfl⟩ := hin.1
 refine CallsV.enter H.tf8 (by simp) ?_
 intro a hsz hdf harg
 have e0 := harg 0 (.agg [.bool n, .slice ad l.length cap].toArray) (by simp)
 unfold c_zzFits8
 refine vX ?_
 refine r_box (v := .agg [.bool n, .slice ad l.length cap].toArray) (by simp (disch := (try simp only [sP]); omega) only [eV, e0]) ?_
 refine rA (dn ?_)
 obtain ⟨hb, hc, _⟩ := boxed (w := w) (cs := [.bool n, .slice ad l.length cap]) (T := C.tOct)
 generalize w.alloc (.cells (Value.agg [.bool n, .slice ad l.length cap].toArray).cells C.tOct) = w1 at *
 refine vS (vX ?_)
 refine rF (b := w.heap.size) (o := 0) (by simp (disch := (try simp only [sP]); omega) only [eV]) H.c1 ?_
 refine rL (b := w.heap.size) (o := 0 + 1) (v := .slice ad l.length cap) (by simp (disch := (try simp only [sP]); omega) only [eV]) H.oB (hc 1 _ rfl) ?_
 refine r_len (ad := ad) (n := l.length) (c := cap) (rB H.row) (by simp (disch := (try simp only [sP]); omega) only [eV]) ?_
 refine r_gtr (k := .i64) (m := l.length) (n := 2147483647) (by simp (disch := (try simp only [sP]); omega) only [eV]) rfl ?_
 refine dn ?_
 refine vS (vC (t := decide ((l.length : Int) > 2147483647)) (by simp (disch := (try simp only [sP]); omega) only [eV]) ?_ ?_)
 ·intro h
  refine vX (rA (dn (vS (vT ?_))))
  refine ⟨by simp only [dF]; exact hdf, .bool false, rO (by simp (disch := (try simp only [sP]); omega) only [eV]), ?_, hb⟩
  have : ¬ l.length ≤ 2147483647 := by simp only [decide_eq_true_eq] at h; omega
  simp [this]
 ·intro h
  refine vK (vN (vX (rA (dn (vS (vT ?_))))))
  refine ⟨by simp only [dF]; exact hdf, .bool true, rO (by simp (disch := (try simp only [sP]); omega) only [eV]), ?_, hb⟩
  have : l.length ≤ 2147483647 := by simp only [decide_eq_false_iff_not] at h; omega
  simp [this]
theorem cells_two {w : World} {b o : Nat} {l : List Value} {u v : Value} {i : Nat} (h : Cells w b o l) (h1 : l[i]? = some u) (h2 : l[i + 1]? = some v) : Cells w b (o + i) [u, v] := by
 intro j x hx
 match j, hx with
 | 0, hx =>
  simp only [List.getElem?_cons_zero, Option.some.injEq] at hx
  subst hx
  exact h i u h1
 | 1, hx =>
  simp only [List.getElem?_cons_succ, List.getElem?_cons_zero, Option.some.injEq] at hx
  subst hx
  exact h (i + 1) v h2
 | j + 2, hx => simp at hx
set_option maxHeartbeats 1000000 in
theorem c_f13_ok (H : OT P E C) {X : OX} {cs : List Value} {w : World} (hX : X.Rep P E w cs) : CallsV P C.f13 #[.agg cs.toArray] w fun v w' => v = .bool (decide (X.k.length ≤ 2147483647) && decide (X.v.length ≤ 2147483647)) ∧ Below w.heap.size w w' := by
 obtain ⟨kv, vv, rfl, hk, hv⟩ := hX
 refine CallsV.enter H.tf13 (by simp) ?_
 intro a hsz hdf harg
 have e0 := harg 0 (.agg (X.cells kv vv).toArray) (by simp)
 unfold c_zzFits13
 refine vX ?_
 refine r_box (v := .agg (X.cells kv vv).toArray) (by simp (disch := (try simp only [sP]); omega) only [eV, e0]) ?_
 refine rA (dn ?_)
 obtain ⟨hb, hc, hz⟩ := boxed (w := w) (cs := X.cells kv vv) (T := C.tOld)
 generalize w.alloc (.cells (Value.agg (X.cells kv vv).toArray).cells C.tOld) = w1 at *
 have hc6 : Cells w1 w.heap.size (0 + 6) [.bool X.kn, kv] := cells_two (i := 6) hc rfl rfl
 have hc8 : Cells w1 w.heap.size (0 + 8) [.bool X.vn, vv] := cells_two (i := 8) hc rfl rfl
 refine vS (vX ?_)
 refine rF (b := w.heap.size) (o := 0) (by simp (disch := (try simp only [sP]); omega) only [eV]) H.f6 ?_
 refine r_loadAgg (b := w.heap.size) (o := 0 + 6) (cs := [.bool X.kn, kv]) (by simp (disch := (try simp only [sP]); omega) only [eV]) H.aOct hc6 ?_
 refine r_call' (args := #[.agg [.bool X.kn, kv].toArray]) ?_ (c_f8_ok H (hk.below hb)) ?_
 ·simp only [lM]
  simp (disch := (try simp only [sP]); omega) only [eV]
 rintro v2 w2 ⟨rfl, hb2⟩
 refine r_not (b := decide (X.k.length ≤ 2147483647)) (by simp (disch := (try simp only [sP]); omega) only [eV]) ?_
 refine dn ?_
 have hbw2 : Below w.heap.size w w2 := hb.trans (hb2.mono hb.size)
 refine vS (vC (t := !decide (X.k.length ≤ 2147483647)) (by simp (disch := (try simp only [sP]); omega) only [eV]) ?_ ?_)
 ·intro h
  have h' : decide (X.k.length ≤ 2147483647) = false := by simpa using h
  refine vX (rA (dn (vS (vT ?_))))
  exact ⟨by simp only [dF]; exact hdf, .bool false, rO (by simp (disch := (try simp only [sP]); omega) only [eV]), by rw [h']; rfl, hbw2⟩
 ·intro h
  have h' : decide (X.k.length ≤ 2147483647) = true := by simpa using h
  refine vK (vN (vS (vX ?_)))
  refine rF (b := w.heap.size) (o := 0) (by simp (disch := (try simp only [sP]); omega) only [eV]) H.f7 ?_
  refine r_loadAgg (b := w.heap.size) (o := 0 + 8) (cs := [.bool X.vn, vv]) (by simp (disch := (try simp only [sP]); omega) only [eV]) H.aOct (hc8.below hb2 (by omega)) ?_
  refine r_call' (args := #[.agg [.bool X.vn, vv].toArray]) ?_ (c_f8_ok H (hv.below hbw2)) ?_
  ·simp only [lM]
   simp (disch := (try simp only [sP]); omega) only [eV]
  rintro v3 w3 ⟨rfl, hb3⟩
  refine r_not (b := decide (X.v.length ≤ 2147483647)) (by simp (disch := (try simp only [sP]); omega) only [eV]) ?_
  refine dn ?_
  have hbw3 : Below w.heap.size w w3 := hbw2.trans (hb3.mono hbw2.size)
  refine vS (vC (t := !decide (X.v.length ≤ 2147483647)) (by simp (disch := (try simp only [sP]); omega) only [eV]) ?_ ?_)
  ·intro h2
   have h2' : decide (X.v.length ≤ 2147483647) = false := by simpa using h2
   refine vX (rA (dn (vS (vT ?_))))
   exact ⟨by simp only [dF]; exact hdf, .bool false, rO (by simp (disch := (try simp only [sP]); omega) only [eV]), by rw [h2', Bool.and_false], hbw3⟩
  ·intro h2
   have h2' : decide (X.v.length ≤ 2147483647) = true := by simpa using h2
   refine vK (vN (vX (rA (dn (vS (vT ?_))))))
   exact ⟨by simp only [dF]; exact hdf, .bool true, rO (by simp (disch := (try simp only [sP]); omega) only [eV]), by rw [h', h2']; rfl, hbw3⟩
theorem c_fits_ok (H : OT P E C) {X : OX} {cs : List Value} {w : World} (hX : X.Rep P E w cs) (h1 : X.k.length ≤ 2147483647) (h2 : X.v.length ≤ 2147483647) : CallsV P C.fits #[.agg cs.toArray] w fun v w' => v = .bool (decide (X.k.length + X.v.length ≤ 131072)) ∧ Below w.heap.size w w' := by
 obtain ⟨kv, vv, rfl, hk, hv⟩ := hX
 obtain ⟨ad, cap, rfl⟩ := hk.1
 obtain ⟨ad2, cap2, rfl⟩ := hv.1
 refine CallsV.enter H.tfits (by simp) ?_
 intro a hsz hdf harg
 have e0 := harg 0 (.agg (X.cells (.slice ad X.k.length cap) (.slice ad2 X.v.length cap2)).toArray) (by simp)
 unfold c_ofits
 refine vX ?_
 refine r_box (v := .agg (X.cells (.slice ad X.k.length cap) (.slice ad2 X.v.length cap2)).toArray) (by simp (disch := (try simp only [sP]); omega) only [eV, e0]) ?_
 refine rA (dn ?_)
 obtain ⟨hb, hc, hz⟩ := boxed (w := w) (cs := X.cells (.slice ad X.k.length cap) (.slice ad2 X.v.length cap2)) (T := C.tOld)
 generalize w.alloc (.cells (Value.agg (X.cells (.slice ad X.k.length cap) (.slice ad2 X.v.length cap2)).toArray).cells C.tOld) = w1 at *
 refine vX ?_
 refine rF (b := w.heap.size) (o := 0) (by simp (disch := (try simp only [sP]); omega) only [eV]) H.f6 ?_
 refine rF (b := w.heap.size) (o := 0 + 6) (by simp (disch := (try simp only [sP]); omega) only [eV]) H.c1 ?_
 refine rL (b := w.heap.size) (o := 0 + 6 + 1) (v := .slice ad X.k.length cap) (by simp (disch := (try simp only [sP]); omega) only [eV]) H.oB (hc 7 _ rfl) ?_
 refine r_len (ad := ad) (n := X.k.length) (c := cap) (rB H.row) (by simp (disch := (try simp only [sP]); omega) only [eV]) ?_
 refine rF (b := w.heap.size) (o := 0) (by simp (disch := (try simp only [sP]); omega) only [eV]) H.f7 ?_
 refine rF (b := w.heap.size) (o := 0 + 8) (by simp (disch := (try simp only [sP]); omega) only [eV]) H.c1 ?_
 refine rL (b := w.heap.size) (o := 0 + 8 + 1) (v := .slice ad2 X.v.length cap2) (by simp (disch := (try simp only [sP]); omega) only [eV]) H.oB (hc 9 _ rfl) ?_
 refine r_len (ad := ad2) (n := X.v.length) (c := cap2) (rB H.row) (by simp (disch := (try simp only [sP]); omega) only [eV]) ?_
 refine r_add (k := .i64) (m := X.k.length) (n := X.v.length) (by simp (disch := (try simp only [sP]); omega) only [eV]) (by simp (disch := (try simp only [sP]); omega) only [eV]) ?_
 rw [wrap_i64 (by omega) (by omega)]
 refine r_leq (k := .i64) (m := (X.k.length : Int) + X.v.length) (n := 131072) (by simp (disch := (try simp only [sP]); omega) only [eV]) rfl ?_
 refine rA (dn (vS (vT ?_)))
 refine ⟨by simp only [dF]; exact hdf, .bool (decide ((X.k.length : Int) + X.v.length ≤ 131072)), rO (by simp (disch := (try simp only [sP]); omega) only [eV]), ?_, hb⟩
 congr 1
 exact decide_eq_decide.2 (by omega)
theorem c_octets_ok (H : OT P E C) {x : Value} {o : Option (List UInt8)} {w : World} (hx : (x = .slice none 0 0 ∧ o = none) ∨ ∃ l ad cap, o = some l ∧ x = .slice (some ad) l.length cap ∧ BytesIn P E w x l ∧ l.length ≤ big) :
  CallsV P C.octets #[x] w fun v w' => ∃ xv, v = .agg [.bool o.isNone, xv].toArray ∧ RowB w' xv (o.getD []) ∧ (∀ q oo n c, xv = .slice (some ⟨q, oo, none⟩) n c → w.heap.size ≤ q) ∧ Below w.heap.size w w' := by
 obtain ⟨z, hz, hzc⟩ := lays_zero H.lOct
 refine CallsV.enter H.tocts (by simp) ?_
 intro a hsz hdf harg
 have e0 := harg 0 x (by simp)
 unfold c_octets
 refine vX ?_
 refine r_alloc hz ?_
 refine dn ?_
 have hfree : ∀ i, i < 2 → Free (w.alloc (.cells z.cells C.tOct)) w.heap.size (0 + i) := fun i hi => by
  rw [Nat.zero_add]
  exact free_new w _ _ (by rw [hzc]; simpa using hi)
 have hb1 : Below w.heap.size w (w.alloc (.cells z.cells C.tOct)) := (Below.refl _ w).alloc (o := .cells _ _) (Nat.le_refl _)
 have hz1 : w.heap.size < (w.alloc (.cells z.cells C.tOct)).heap.size := by simp
 generalize w.alloc (.cells z.cells C.tOct) = w1 at *
 refine vS (vX (rM ?_))
 rcases hx with ⟨rfl, rfl⟩ | ⟨l, ad, cap, rfl, rfl, hin, hl⟩
 ·refine r_eqNil (ad := none) (len := 0) (cap := 0) (rB H.row) (by simp (disch := (try simp only [sP]); omega) only [eV, e0]) ?_
  refine dn ?_
  refine vS (vC (t := true) (by simp (disch := (try simp only [sP]); omega) only [eV, Option.isNone]) (fun _ => ?_) (fun h => by cases h))
  refine vX ?_
  refine r_build (cells := #[.bool true, .slice none 0 0]) H.lOct (by simp [Instr.fill, Value.cells, eval_const]) ?_
  refine r_storeAgg (b := w.heap.size) (o := 0) (cs := [.bool true, .slice none 0 0]) (by simp (disch := (try simp only [sP]); omega) only [eV]) (by simp (disch := (try simp only [sP]); omega) only [eV]) (by intro v hv; simp only [List.mem_cons, List.not_mem_nil, or_false] at hv; rcases hv with rfl | rfl <;> rfl) H.aOct (fun i hi => hfree i (by simpa using hi)) ?_
  refine dn ?_
  have hcb : Cells (setCells w1 w.heap.size 0 [.bool true, .slice none 0 0]) w.heap.size 0 [.bool true, .slice none 0 0] := fun i v hv => setCells_cell _ _ _ _ (fun j hj => (hfree j (by simpa using hj)).1) i v hv
  have hE := setCells_eff w.heap.size [.bool true, .slice none 0 0] w1 0
  refine vS (vT ?_)
  refine ⟨by simp only [dF]; exact hdf, .agg [.bool true, .slice none 0 0].toArray, results_cell (b := w.heap.size) (o := 0) (cs := [.bool true, .slice none 0 0]) (by simp (disch := (try simp only [sP]); omega) only [eV]) H.aOct hcb, .slice none 0 0, rfl, .inl ⟨rfl, rfl⟩, fun _ _ _ _ h => (by cases h), hb1.trans (hE.below (by omega) (by rintro k i hk ⟨h, _⟩; omega))⟩
 ·refine r_eqNil (ad := some ad) (len := l.length) (cap := cap) (rB H.row) (by simp (disch := (try simp only [sP]); omega) only [eV, e0]) ?_
  refine dn ?_
  refine vS (vC (t := false) (by simp (disch := (try simp only [sP]); omega) only [eV, Option.isNone]) (fun h => by cases h) (fun _ => ?_))
  refine vK (vN (vX ?_))
  refine r_buildSlice0 H.row ?_
  have hown0 := World.ownsRow_made (base := w1.heap.size) (e := E.tU8) (size := 1) w1 #[] 0 (Nat.le_refl _) (by decide) (by simp)
  have hb2 : Below w1.heap.size w1 (w1.alloc (.cells #[] E.tU8)) := (Below.refl _ w1).alloc (o := .cells _ _) (Nat.le_refl _)
  have hz2 : (w1.alloc (.cells #[] E.tU8)).heap.size = w1.heap.size + 1 := by simp
  generalize w1.alloc (.cells #[] E.tU8) = w2 at *
  have hbw2 : Below w.heap.size w w2 := hb1.trans (hb2.mono (by omega))
  refine rM ?_
  refine r_append (U := w1.heap.size) (v := .slice (some ⟨w1.heap.size, 0, none⟩) 0 0) (n := 0) (xs := []) (u := .slice (some ad) l.length cap) (m := l.length) (news := l.map bv) H.row (by simp (disch := (try simp only [sP]); omega) only [eV]) (by simp (disch := (try simp only [sP]); omega) only [eV, e0]) hown0 (by omega) (hin.2 _ hbw2) (by omega) ?_
  intro xv w3 hown3 hb3
  rw [Nat.zero_add, List.nil_append] at hown3
  have hbw3 : Below w.heap.size w w3 := hbw2.trans (hb3.mono (by omega))
  have hz3 := hb3.size
  have hx1 : xv.oneCell' = true ∧ xv.cells = #[xv] := by
   obtain ⟨ad', cap', rfl⟩ := (RowB.of_own hown3).form
   exact ⟨rfl, rfl⟩
  generalize hA : Act.put _ (some 8) _ = A
  have hA8 : A.eval (.tmp 8) = xv := by subst hA; simp (disch := (try simp only [sP]); omega) only [eV]
  have hA2 : A.eval (.tmp 2) = .pointer (some ⟨w.heap.size, 0, none⟩) := by subst hA; simp (disch := (try simp only [sP]); omega) only [eV]
  have hAs : A.tmps.size = 10 := by subst hA; simp only [zP]; exact hsz
  have hAd : A.defers = [] := by subst hA; simp only [dF]; exact hdf
  clear hA
  refine r_build (cells := #[.bool false, xv]) H.lOct (by simp [Instr.fill, hA8, hx1.2]) ?_
  have hfree3 : ∀ i, i < 2 → Free w3 w.heap.size (0 + i) := fun i hi => ((hfree i hi).eff (Eff.of_below (M := fun _ _ => False) (hb2.trans (hb3.mono (by omega)))))
  refine r_storeAgg (b := w.heap.size) (o := 0) (cs := [.bool false, xv]) (by simp (disch := (try simp only [sP]); omega) only [eV, hA2]) (by simp (disch := (try simp only [sP]); omega) only [eV]) (by intro v hv; simp only [List.mem_cons, List.not_mem_nil, or_false] at hv; rcases hv with rfl | rfl; rfl; exact hx1.1) H.aOct (fun i hi => hfree3 i (by simpa using hi)) ?_
  refine dn ?_
  have hcb : Cells (setCells w3 w.heap.size 0 [.bool false, xv]) w.heap.size 0 [.bool false, xv] := fun i v hv => setCells_cell _ _ _ _ (fun j hj => (hfree3 j (by simpa using hj)).1) i v hv
  have hE := setCells_eff w.heap.size [.bool false, xv] w3 0
  refine vS (vT ?_)
  refine ⟨by simp only [dF]; exact hAd, .agg [.bool false, xv].toArray, results_cell (b := w.heap.size) (o := 0) (cs := [.bool false, xv]) (by simp (disch := (try simp only [sP]); omega) only [eV, hA2]) H.aOct hcb, xv, rfl, ?_, ?_, hbw3.trans (hE.below (by omega) (by rintro k i hk ⟨h, _⟩; omega))⟩
  ·rcases RowB.of_own hown3 with h | ⟨q, o, cap', hv, hc⟩
   ·exact .inl h
   ·refine .inr ⟨q, o, cap', hv, hc.eff hE ?_⟩
    rintro i hi ⟨h, _⟩
    have hq : w1.heap.size ≤ q := hown3.lt q (by rw [hv]; rfl) |>.1
    omega
  ·intro q oo n c hv
   have hq : w1.heap.size ≤ q := hown3.lt q (by rw [hv]; rfl) |>.1
   omega
theorem RowB.effB {w w' : World} {v : Value} {l : List UInt8} {M : Nat → Nat → Prop} {B : Nat} (h : RowB w v l) (hq : ∀ q oo n c, v = .slice (some ⟨q, oo, none⟩) n c → B ≤ q) (he : Eff M w w') (hM : ∀ k i, B ≤ k → ¬ M k i) : RowB w' v l := by
 rcases h with h | ⟨q, o, cap, hv, hc⟩
 ·exact .inl h
 ·exact .inr ⟨q, o, cap, hv, hc.eff he (fun i _ => hM q _ (hq _ _ _ _ hv))⟩
end
end Go.Km
namespace Go.Km
open Go Go.RowKit
attribute [local irreducible] vc rO_ runG runS runD
section
variable {P : Program} {E : Env} {C : OC}
theorem below_drew (w : World) : Below w.heap.size w { w with drawn := w.drawn + 1 } := ⟨rfl, rfl, rfl, Nat.le_refl _, fun _ _ => rfl⟩
theorem BytesIn.drew {w : World} {v : Value} {l : List UInt8} (h : BytesIn P E w v l) : BytesIn P E { w with drawn := w.drawn + 1 } v l := h.below (below_drew w)
set_option maxHeartbeats 1000000 in
theorem c_foct_ok (H : OT P E C) {n : Bool} {kv : Value} {l : List UInt8} {w : World} {U : Nat} (hU : U ≤ w.heap.size) (hin : BytesIn P E w kv l) (hl : 4 + l.length ≤ big) : Gives P E C.fOct U #[.agg [.bool n, kv].toArray] (octW n l) w := by
 obtain ⟨ad, cap, rfl⟩ := hin.1
 refine CallsV.enter H.tfoct (by simp) ?_
 intro a hsz hdf harg
 have e0 := harg 0 (.agg [.bool n, .slice ad l.length cap].toArray) (by simp)
 unfold c_fixedOctets
 refine vX ?_
 refine r_box (v := .agg [.bool n, .slice ad l.length cap].toArray) (by simp (disch := (try simp only [sP]); omega) only [eV, e0]) ?_
 refine rA (dn ?_)
 obtain ⟨hb, hc, hz⟩ := boxed (w := w) (cs := [.bool n, .slice ad l.length cap]) (T := C.tOct)
 generalize w.alloc (.cells (Value.agg [.bool n, .slice ad l.length cap].toArray).cells C.tOct) = w1 at *
 generalize hG : Act.put _ (some 2) _ = G
 have hsG : G.tmps.size = 13 := by rw [← hG]; simp only [zP]; exact hsz
 have hdG : G.defers = [] := by rw [← hG]; simp only [dF]; exact hdf
 have k1 : G.eval (.tmp 1) = .pointer (some ⟨w.heap.size, 0, none⟩) := by rw [← hG]; simp (disch := (try simp only [sP]); omega) only [eV]
 clear hG
 refine vS (vX ?_)
 refine rF (b := w.heap.size) (o := 0) (by simp (disch := (try simp only [sP]); omega) only [eV, k1]) H.c0 ?_
 refine rL (b := w.heap.size) (o := 0 + 0) (v := .bool n) (by simp (disch := (try simp only [sP]); omega) only [eV]) H.oO (hc 0 _ rfl) ?_
 refine dn ?_
 refine vS (vC (t := n) (by simp (disch := (try simp only [sP]); omega) only [eV]) ?_ ?_)
 ·intro h
  subst h
  refine vX ?_
  refine r_call' (args := #[.int .i64 (-1), .int .i64 (4 : Nat)]) ?_ (s_fixed (U := U) (n := -1) (k := 4) H.fixed H.row H.u8 H.i64 H.int (by omega) (by omega)) ?_
  ·simp only [lM]
   simp (disch := (try simp only [sP]); omega) only [eV]
   rfl
  rintro v2 w2 ⟨hown, hb2⟩
  refine rA (dn (vS (vT ?_)))
  exact ⟨by simp only [dF]; exact hdG, v2, rO (by simp (disch := (try simp only [sP]); omega) only [eV]), hown, (hb.mono hU).trans hb2⟩
 ·intro h
  subst h
  refine vK (vN ?_)
  generalize hG2 : Act.put _ (some 4) _ = G2
  have hsG2 : G2.tmps.size = 13 := by rw [← hG2]; simp only [zP]; exact hsG
  have hdG2 : G2.defers = [] := by rw [← hG2]; simp only [dF]; exact hdG
  have k1 : G2.eval (.tmp 1) = .pointer (some ⟨w.heap.size, 0, none⟩) := by rw [← hG2]; simp (disch := (try simp only [sP]); omega) only [eV, k1]
  clear hG2
  have hbd : Below w1.heap.size w1 { w1 with drawn := w1.drawn + 1 } := below_drew w1
  have mkS : ∀ w', Below w1.heap.size w1 w' → Cells w' w.heap.size 0 [.bool false, .slice ad l.length cap] := fun w' h => hc.below h (by omega)
  have hS := mkS _ hbd
  refine vS (vc_rgd [(0, true), (1, true), (2, true), (4, true), (5, true), (3, false), (6, false), (7, true)] (fun W' => Cells W' w.heap.size 0 [.bool false, .slice ad l.length cap]) H.mixed (by kernel_rfl) rfl (by kernel_rfl) (fun _ _ _ _ h => False.elim h) ?_)
  refine dP rfl rfl rfl (wN rfl) (by simp only [zP, hsG2]; omega) hS (fun w' hS' => rF (b := w.heap.size) (o := 0) (by simp (disch := (try simp only [sP]); omega) only [eV, k1]) H.c1 (dn ⟨rfl, rfl, rfl⟩)) ?_
  refine dP rfl rfl rfl (wN rfl) (by simp only [zP, hsG2]; omega) hS (fun w' hS' => rL (b := w.heap.size) (o := 0 + 1) (v := .slice ad l.length cap) (by simp (disch := (try simp only [sP]); omega) only [eV]) H.oB (hS' 1 _ rfl) (dn ⟨rfl, rfl, rfl⟩)) ?_
  refine dP rfl rfl rfl (wN rfl) (by simp only [zP, hsG2]; omega) hS (fun w' hS' => r_len (ad := ad) (n := l.length) (c := cap) (rB H.row) (by simp (disch := (try simp only [sP]); omega) only [eV]) (dn ⟨rfl, rfl, rfl⟩)) ?_
  refine dP rfl rfl rfl (wN rfl) (by simp only [zP, hsG2]; omega) hS (fun w' hS' => rF (b := w.heap.size) (o := 0) (by simp (disch := (try simp only [sP]); omega) only [eV, k1]) H.c1 (dn ⟨rfl, rfl, rfl⟩)) ?_
  refine dP rfl rfl rfl (wN rfl) (by simp only [zP, hsG2]; omega) hS (fun w' hS' => rL (b := w.heap.size) (o := 0 + 1) (v := .slice ad l.length cap) (by simp (disch := (try simp only [sP]); omega) only [eV]) H.oB (hS' 1 _ rfl) (dn ⟨rfl, rfl, rfl⟩)) ?_
  refine d_sole rfl (wN rfl) ?_
  refine r_call' (args := #[.int .i64 l.length, .int .i64 (4 : Nat)]) ?_ (s_fixed (U := w1.heap.size) (n := (l.length : Int)) (k := 4) H.fixed H.row H.u8 H.i64 H.int (by omega) (Nat.le_refl _)) ?_
  ·simp only [lM]
   simp (disch := (try simp only [sP]); omega) only [eV]
   rfl
  rintro v3 w3 ⟨hown3, hb3⟩
  have hb13 : Below w1.heap.size w1 w3 := hbd.trans hb3
  refine dn (d_then (mkS _ hb13) ?_)
  refine d_sole rfl (wN rfl) ?_
  refine r_append (U := w1.heap.size) (v := v3) (n := (be 4 (l.length : Int)).length) (xs := (be 4 (l.length : Int)).map bv) (u := .slice ad l.length cap) (m := l.length) (news := l.map bv) H.row (by simp (disch := (try simp only [sP]); omega) only [eV]) (by simp (disch := (try simp only [sP]); omega) only [eV]) hown3 hb13.size (hin.2 _ (hb.trans (hb13.mono (by omega)))) (by rw [be_len]; exact hl) ?_
  intro v4 w4 hown4 hb4
  have hb14 : Below w1.heap.size w1 w4 := hb13.trans hb4
  refine dn (d_then (mkS _ hb14) ?_)
  refine dP rfl rfl rfl (wN rfl) (by simp only [zP, hsG2]; omega) (mkS _ hb14) (fun w' hS' => rA (dn ⟨rfl, rfl, rfl⟩)) ?_
  refine d_nil ?_
  refine vS (vT ?_)
  refine ⟨by simp only [dF]; exact hdG2, v4, rO (by simp (disch := (try simp only [sP]); omega) only [eV]), ?_, (hb.trans (hb14.mono (by omega))).mono hU⟩
  rw [← List.map_append, ← List.length_append] at hown4
  exact own_mono2 hown4 (by omega)
theorem ownApp {w : World} {U : Nat} {v : Value} {xs ys : List UInt8} (h : w.ownsRow U E.tU8 1 v (xs.length + ys.length) (xs.map bv ++ ys.map bv)) : w.ownsRow U E.tU8 1 v (xs ++ ys).length ((xs ++ ys).map bv) := by
 rw [List.map_append, List.length_append]
 exact h
theorem be1_o8 (n : Int) : be 1 n = [o8 (IntKind.u8.wrap n)] := by
 rw [wrap8]
 simp [be, o8]
def OX.head (X : OX) : List UInt8 := be 8 X.off ++ be 4 X.size ++ be 4 X.crc ++ (be 1 X.mag ++ be 1 X.att)
set_option maxHeartbeats 4000000 in
theorem c_oldB_ok (H : OT P E C) {X : OX} {cs : List Value} {w : World} {U : Nat} {one : Bool} (hU : U ≤ w.heap.size) (hok : X.ok) (hX : X.Rep P E w cs) (hl : X.k.length + X.v.length ≤ 1000000) : Gives P E C.oldB U #[.int .i64 (if one then 1 else 0), .agg cs.toArray] (X.wr one) w := by
 obtain ⟨kv, vv, rfl, hk, hv⟩ := hX
 obtain ⟨r0, r1, r2, r3, r4, r5⟩ := hok
 simp only [Scal.ok] at r0 r1 r2 r3 r4 r5
 refine CallsV.enter H.toldB (by simp) ?_
 intro a hsz hdf harg
 have e0 := harg 0 (.int .i64 (if one then 1 else 0)) (by simp)
 have e1 := harg 1 (.agg (X.cells kv vv).toArray) (by simp)
 unfold c_oldBytes
 refine vX ?_
 refine r_box (v := .agg (X.cells kv vv).toArray) (by simp (disch := (try simp only [sP]); omega) only [eV, e1]) ?_
 refine rA (dn ?_)
 obtain ⟨hb, hc, hz⟩ := boxed (w := w) (cs := X.cells kv vv) (T := C.tOld)
 generalize w.alloc (.cells (Value.agg (X.cells kv vv).toArray).cells C.tOld) = w1 at *
 generalize hm0 : w.heap.size = m0 at *
 generalize hm : w1.heap.size = m at *
 generalize hG : Act.put _ (some 4) _ = G
 have hsG : G.tmps.size = 45 := by rw [← hG]; simp only [zP]; exact hsz
 have hdG : G.defers = [] := by rw [← hG]; simp only [dF]; exact hdf
 have k0 : G.eval (.tmp 0) = .int .i64 (if one then 1 else 0) := by rw [← hG]; simp (disch := (try simp only [sP]); omega) only [eV, e0]
 have k3 : G.eval (.tmp 3) = .pointer (some ⟨m0, 0, none⟩) := by rw [← hG]; simp (disch := (try simp only [sP]); omega) only [eV]
 clear hG
 have hbd : Below m w1 { w1 with drawn := w1.drawn + 1 } := by rw [← hm]; exact below_drew w1
 have mkS : ∀ w', Below m w1 w' → Cells w' m0 0 (X.cells kv vv) := fun w' h => hc.below h (by omega)
 have hS := mkS _ hbd
 refine vS (vc_rgd [(0, true), (1, true), (3, true), (4, true), (5, true), (2, false), (6, false), (7, false), (8, true)] (fun W' => Cells W' m0 0 (X.cells kv vv)) H.mixed (by kernel_rfl) rfl (by kernel_rfl) (fun _ _ _ _ h => False.elim h) ?_)
 refine dP rfl rfl rfl (wN rfl) (by simp only [zP, hsG]; omega) hS (fun w' hS' => rF (b := m0) (o := 0) (by simp (disch := (try simp only [sP]); omega) only [eV, k3]) H.f0 (dn ⟨rfl, rfl, rfl⟩)) ?_
 refine dP rfl rfl rfl (wN rfl) (by simp only [zP, hsG]; omega) hS (fun w' hS' => rL (b := m0) (o := 0 + 0) (v := .int .i64 X.off) (by simp (disch := (try simp only [sP]); omega) only [eV]) H.o64 (hS' 0 _ rfl) (dn ⟨rfl, rfl, rfl⟩)) ?_
 refine dP rfl rfl rfl (wN rfl) (by simp only [zP, hsG]; omega) hS (fun w' hS' => rF (b := m0) (o := 0) (by simp (disch := (try simp only [sP]); omega) only [eV, k3]) H.f1 (dn ⟨rfl, rfl, rfl⟩)) ?_
 refine dP rfl rfl rfl (wN rfl) (by simp only [zP, hsG]; omega) hS (fun w' hS' => rL (b := m0) (o := 0 + 1) (v := .int .i32 X.size) (by simp (disch := (try simp only [sP]); omega) only [eV]) H.o32 (hS' 1 _ rfl) (dn ⟨rfl, rfl, rfl⟩)) ?_
 refine dP (v := .int .i64 X.size) rfl rfl rfl (wN rfl) (by simp only [zP, hsG]; omega) hS (fun w' hS' => r_conv (k := .i32) (k' := .i64) (m := X.size) H.i32 H.i64 (by simp (disch := (try simp only [sP]); omega) only [eV]) (by rw [wrap_i64 (by omega) (by omega)]; exact dn ⟨rfl, rfl, rfl⟩)) ?_
 refine d_sole rfl (wN rfl) ?_
 refine r_call' (args := #[.int .i64 X.off, .int .i64 (8 : Nat)]) ?_ (s_fixed (U := m) (n := X.off) (k := 8) H.fixed H.row H.u8 H.i64 H.int (by omega) (by rw [hm]; exact Nat.le_refl _)) ?_
 ·simp only [lM]
  simp (disch := (try simp only [sP]); omega) only [eV]
  rfl
 rintro v2 w2 ⟨hown2, hb2⟩
 have hm2 : Below m w1 w2 := hbd.trans hb2
 refine dn (d_then (mkS _ hm2) ?_)
 refine d_sole rfl (wN rfl) ?_
 refine r_call' (args := #[.int .i64 X.size, .int .i64 (4 : Nat)]) ?_ (s_fixed (U := w2.heap.size) (n := X.size) (k := 4) H.fixed H.row H.u8 H.i64 H.int (by omega) (Nat.le_refl _)) ?_
 ·simp only [lM]
  simp (disch := (try simp only [sP]); omega) only [eV]
  rfl
 rintro v3 w3 ⟨hown3, hb3⟩
 have hw2 := hm2.size
 have hm3 : Below m w1 w3 := hm2.trans (hb3.mono (by omega))
 refine dn (d_then (mkS _ hm3) ?_)
 refine d_sole rfl (wN rfl) ?_
 refine r_append (U := m) (v := v2) (n := (be 8 X.off).length) (xs := (be 8 X.off).map bv) (u := v3) (m := (be 4 X.size).length) (news := (be 4 X.size).map bv) H.row (by simp (disch := (try simp only [sP]); omega) only [eV]) (by simp (disch := (try simp only [sP]); omega) only [eV]) (own_below2 hown2 hb3) (by have := hm3.size; omega) (src_own (rB H.row) hown3 (bv_one _)) (by simp only [be_len]; unfold big; omega) ?_
 intro v4 w4 hown4 hb4
 have hown4 := ownApp hown4
 have hm4 : Below m w1 w4 := hm3.trans hb4
 refine dn (d_then (mkS _ hm4) ?_)
 refine dP rfl rfl rfl (wN rfl) (by simp only [zP, hsG]; omega) (mkS _ hm4) (fun w' hS' => rA (dn ⟨rfl, rfl, rfl⟩)) ?_
 refine d_nil ?_
 generalize hbs : be 8 X.off ++ be 4 X.size = bs at *
 have hbl : bs.length = 12 := by rw [← hbs]; simp [be_len]
 generalize hA : Act.put _ (some 5) _ = A
 have hsA : A.tmps.size = 45 := by rw [← hA]; simp only [zP]; exact hsG
 have hdA : A.defers = [] := by rw [← hA]; simp only [dF]; exact hdG
 have k0 : A.eval (.tmp 0) = .int .i64 (if one then 1 else 0) := by rw [← hA]; simp (disch := (try simp only [sP]); omega) only [eV, k0]
 have k3 : A.eval (.tmp 3) = .pointer (some ⟨m0, 0, none⟩) := by rw [← hA]; simp (disch := (try simp only [sP]); omega) only [eV, k3]
 have k5 : A.eval (.tmp 5) = v4 := by rw [← hA]; simp (disch := (try simp only [sP]); omega) only [eV]
 clear hA
 refine vX (rM ?_)
 refine rF (b := m0) (o := 0) (by simp (disch := (try simp only [sP]); omega) only [eV, k3]) H.f2 ?_
 refine rL (b := m0) (o := 0 + 2) (v := .int .i32 X.crc) (by simp (disch := (try simp only [sP]); omega) only [eV]) H.o32 (mkS _ hm4 2 _ rfl) ?_
 refine r_conv (k := .i32) (k' := .i64) (m := X.crc) H.i32 H.i64 (by simp (disch := (try simp only [sP]); omega) only [eV]) ?_
 rw [wrap_i64 (by omega) (by omega)]
 refine r_call' (args := #[.int .i64 X.crc, .int .i64 (4 : Nat)]) ?_ (s_fixed (U := w4.heap.size) (n := X.crc) (k := 4) H.fixed H.row H.u8 H.i64 H.int (by omega) (Nat.le_refl _)) ?_
 ·simp only [lM]
  simp (disch := (try simp only [sP]); omega) only [eV]
  rfl
 rintro v5 w5 ⟨hown5, hb5⟩
 have hw4 := hm4.size
 have hm5 : Below m w1 w5 := hm4.trans (hb5.mono (by omega))
 refine r_append (U := m) (v := v4) (n := bs.length) (xs := bs.map bv) (u := v5) (m := (be 4 X.crc).length) (news := (be 4 X.crc).map bv) H.row (by simp (disch := (try simp only [sP]); omega) only [eV, k5]) (by simp (disch := (try simp only [sP]); omega) only [eV]) (own_below2 hown4 hb5) (by have := hm5.size; omega) (src_own (rB H.row) hown5 (bv_one _)) (by simp only [be_len]; unfold big; omega) ?_
 intro v6 w6 hown6 hb6
 have hown6 := ownApp hown6
 have hm6 : Below m w1 w6 := hm5.trans hb6
 refine rA (dn ?_)
 generalize hA2 : Act.put _ (some 5) _ = A2
 have hsA2 : A2.tmps.size = 45 := by rw [← hA2]; simp only [zP]; exact hsA
 have hdA2 : A2.defers = [] := by rw [← hA2]; simp only [dF]; exact hdA
 have k0 : A2.eval (.tmp 0) = .int .i64 (if one then 1 else 0) := by rw [← hA2]; simp (disch := (try simp only [sP]); omega) only [eV, k0]
 have k3 : A2.eval (.tmp 3) = .pointer (some ⟨m0, 0, none⟩) := by rw [← hA2]; simp (disch := (try simp only [sP]); omega) only [eV, k3]
 have k5 : A2.eval (.tmp 5) = v6 := by rw [← hA2]; simp (disch := (try simp only [sP]); omega) only [eV]
 clear hA2
 refine vX (rM ?_)
 refine rF (b := m0) (o := 0) (by simp (disch := (try simp only [sP]); omega) only [eV, k3]) H.f3 ?_
 refine rL (b := m0) (o := 0 + 3) (v := .int .i8 X.mag) (by simp (disch := (try simp only [sP]); omega) only [eV]) H.o8 (mkS _ hm6 3 _ rfl) ?_
 refine r_conv (k := .i8) (k' := .u8) (m := X.mag) H.i8 H.u8 (by simp (disch := (try simp only [sP]); omega) only [eV]) ?_
 refine rF (b := m0) (o := 0) (by simp (disch := (try simp only [sP]); omega) only [eV, k3]) H.f4 ?_
 refine rL (b := m0) (o := 0 + 4) (v := .int .i8 X.att) (by simp (disch := (try simp only [sP]); omega) only [eV]) H.o8 (mkS _ hm6 4 _ rfl) ?_
 refine r_conv (k := .i8) (k' := .u8) (m := X.att) H.i8 H.u8 (by simp (disch := (try simp only [sP]); omega) only [eV]) ?_
 refine r_litApp (U := m) (v := v6) (xs := bs ++ be 4 X.crc) (zs := [IntKind.u8.wrap X.mag, IntKind.u8.wrap X.att]) H.row ?_ (by
  intro z hz
  simp only [List.mem_cons, List.not_mem_nil, or_false] at hz
  rcases hz with rfl | rfl <;> exact wrap8_ok _) rfl (by omega) (by omega) (by simp (disch := (try simp only [sP]); omega) only [eV, k5]) (by omega) (by simp only [zP, hsA2]; omega) hown6 (by have := hm6.size; omega) (by simp only [List.length_append, be_len]; unfold big; omega) ?_
 ·simp only [lM]
  simp (disch := (try simp only [sP]); omega) only [eV]
  rfl
 intro v7 w7 hown7 hb7
 have e7 : [IntKind.u8.wrap X.mag, IntKind.u8.wrap X.att].map o8 = be 1 X.mag ++ be 1 X.att := by rw [be1_o8, be1_o8]; rfl
 rw [e7] at hown7
 have hh : bs ++ be 4 X.crc ++ (be 1 X.mag ++ be 1 X.att) = X.head := by rw [← hbs]; rfl
 rw [hh] at hown7
 have hhl : X.head.length = 18 := by unfold OX.head; simp [be_len]
 have hm7 : Below m w1 w7 := hm6.trans hb7
 refine rA (dn ?_)
 generalize hA3 : Act.put _ (some 5) _ = A3
 have hsA3 : A3.tmps.size = 45 := by rw [← hA3]; simp only [zP]; exact hsA2
 have hdA3 : A3.defers = [] := by rw [← hA3]; simp only [dF]; exact hdA2
 have k0 : A3.eval (.tmp 0) = .int .i64 (if one then 1 else 0) := by rw [← hA3]; simp (disch := (try simp only [sP]); omega) only [eV, k0]
 have k3 : A3.eval (.tmp 3) = .pointer (some ⟨m0, 0, none⟩) := by rw [← hA3]; simp (disch := (try simp only [sP]); omega) only [eV, k3]
 have k5 : A3.eval (.tmp 5) = v7 := by rw [← hA3]; simp (disch := (try simp only [sP]); omega) only [eV]
 clear hA3
 -- the end
 have fin : ∀ (A4 : Act) (v8 : Value) (w8 : World) (t : List UInt8), A4.tmps.size = 45 → A4.defers = [] → A4.eval (.tmp 3) = .pointer (some ⟨m0, 0, none⟩) → A4.eval (.tmp 5) = v8 → Below m w1 w8 → t.length ≤ 8 → w8.ownsRow m E.tU8 1 v8 (X.head ++ t).length ((X.head ++ t).map bv) → X.wr one = X.head ++ t ++ octW X.kn X.k ++ octW X.vn X.v →
   vc P (sq [rgd [(oQ 36 (.move (.tmp 5)) E.tB),
   (oQ 37 (.fieldAddr C.tOld (.tmp 3) 6) 0),
   ⟨some 38, .load C.tOct (.tmp 37), C.tOct, "", #[⟨1, .data⟩], none⟩,
   ⟨some 39, .call { callee := .value (.func C.fOct), args := #[(.tmp 38)], argTypes := #[C.tOct] }, E.tB, "", #[⟨2, .data⟩], none⟩,
   ⟨some 40, .call { callee := .builtin .append, args := #[(.tmp 36), (.tmp 39)], argTypes := #[E.tB, E.tB] }, E.tB, "", #[⟨0, .data⟩, ⟨3, .data⟩, ⟨3, .chain⟩], none⟩,
   (oQ 41 (.fieldAddr C.tOld (.tmp 3) 7) 0),
   ⟨some 42, .load C.tOct (.tmp 41), C.tOct, "", #[⟨5, .data⟩], none⟩,
   ⟨some 43, .call { callee := .value (.func C.fOct), args := #[(.tmp 42)], argTypes := #[C.tOct] }, E.tB, "", #[⟨6, .data⟩, ⟨4, .chain⟩], none⟩,
   ⟨some 44, .call { callee := .builtin .append, args := #[(.tmp 40), (.tmp 43)], argTypes := #[E.tB, E.tB] }, E.tB, "", #[⟨4, .data⟩, ⟨7, .data⟩, ⟨7, .chain⟩], none⟩,
   ⟨some 4, .assign (.tmp 44), E.tB, "", #[⟨8, .data⟩, ⟨8, .chain⟩, ⟨0, .phase⟩, ⟨1, .phase⟩, ⟨2, .phase⟩, ⟨3, .phase⟩, ⟨4, .phase⟩, ⟨5, .phase⟩, ⟨6, .phase⟩, ⟨7, .phase⟩, ⟨8, .phase⟩], none⟩], .ret]) (Out P #[.tmp 4] fun v w' => w'.ownsRow U E.tU8 1 v (X.wr one).length ((X.wr one).map bv) ∧ Below U w w') A4 w8 := by
  intro A4 v8 w8 t hs4 hd4 g3 g5 hm8 ht8 hown8 hwr
  generalize hp : X.head ++ t = p at *
  have hpl : p.length ≤ 26 := by rw [← hp, List.length_append]; omega
  have hw8 := hm8.size
  have hbd8 : Below w8.heap.size w8 { w8 with drawn := w8.drawn + 1 } := below_drew w8
  have hm8' : Below m w1 { w8 with drawn := w8.drawn + 1 } := hm8.trans (hbd8.mono (by omega))
  have hS := mkS _ hm8'
  have c6 : ∀ w', Cells w' m0 0 (X.cells kv vv) → Cells w' m0 (0 + 6) [.bool X.kn, kv] := fun w' h => cells_two (i := 6) h rfl rfl
  have c8 : ∀ w', Cells w' m0 0 (X.cells kv vv) → Cells w' m0 (0 + 8) [.bool X.vn, vv] := fun w' h => cells_two (i := 8) h rfl rfl
  refine vS (vc_rgd [(0, true), (1, true), (2, true), (5, true), (6, true), (3, false), (4, false), (7, false), (8, false), (9, true)] (fun W' => Cells W' m0 0 (X.cells kv vv)) H.mixed (by kernel_rfl) rfl (by kernel_rfl) (fun _ _ _ _ h => False.elim h) ?_)
  refine dP rfl rfl rfl (wN rfl) (by simp only [zP, hs4]; omega) hS (fun w' hS' => rM (dn ⟨rfl, rfl, rfl⟩)) ?_
  refine dP rfl rfl rfl (wN rfl) (by simp only [zP, hs4]; omega) hS (fun w' hS' => rF (b := m0) (o := 0) (by simp (disch := (try simp only [sP]); omega) only [eV, g3]) H.f6 (dn ⟨rfl, rfl, rfl⟩)) ?_
  refine dP rfl rfl rfl (wN rfl) (by simp only [zP, hs4]; omega) hS (fun w' hS' => r_loadAgg (b := m0) (o := 0 + 6) (cs := [.bool X.kn, kv]) (by simp (disch := (try simp only [sP]); omega) only [eV]) H.aOct (c6 _ hS') (dn ⟨rfl, rfl, rfl⟩)) ?_
  refine dP rfl rfl rfl (wN rfl) (by simp only [zP, hs4]; omega) hS (fun w' hS' => rF (b := m0) (o := 0) (by simp (disch := (try simp only [sP]); omega) only [eV, g3]) H.f7 (dn ⟨rfl, rfl, rfl⟩)) ?_
  refine dP rfl rfl rfl (wN rfl) (by simp only [zP, hs4]; omega) hS (fun w' hS' => r_loadAgg (b := m0) (o := 0 + 8) (cs := [.bool X.vn, vv]) (by simp (disch := (try simp only [sP]); omega) only [eV]) H.aOct (c8 _ hS') (dn ⟨rfl, rfl, rfl⟩)) ?_
  have hbw8 : Below m0 w { w8 with drawn := w8.drawn + 1 } := hb.trans (hm8'.mono (by omega))
  have hfo : Gives P E C.fOct w8.heap.size #[.agg [.bool X.kn, kv].toArray] (octW X.kn X.k) { w8 with drawn := w8.drawn + 1 } := c_foct_ok H (Nat.le_refl _) (hk.below (by rw [hm0]; exact hbw8)) (by unfold big; omega)
  refine d_sole rfl (wN rfl) ?_
  refine r_call' (args := #[.agg [Value.bool X.kn, kv].toArray]) ?_ hfo ?_
  ·simp only [lM]
   simp (disch := (try simp only [sP]); omega) only [eV]
  rintro v9 w9 ⟨hown9, hb9⟩
  have hm9 : Below m w1 w9 := hm8'.trans (hb9.mono (by omega))
  have hw9 := hm9.size
  refine dn (d_then (mkS _ hm9) ?_)
  refine d_sole rfl (wN rfl) ?_
  have hlk : (octW X.kn X.k).length ≤ 4 + X.k.length := by unfold octW; cases X.kn <;> simp [wrNBytes, wrBytes, be_len]
  have hlv : (octW X.vn X.v).length ≤ 4 + X.v.length := by unfold octW; cases X.vn <;> simp [wrNBytes, wrBytes, be_len]
  have hown8' : World.ownsRow w9 m E.tU8 1 v8 p.length (p.map bv) := own_below2 (own_below2 hown8 hbd8) hb9
  refine r_append (U := m) (v := v8) (n := p.length) (xs := p.map bv) (u := v9) (m := (octW X.kn X.k).length) (news := (octW X.kn X.k).map bv) H.row (by simp (disch := (try simp only [sP]); omega) only [eV, g5]) (by simp (disch := (try simp only [sP]); omega) only [eV]) hown8' (by omega) (src_own (rB H.row) hown9 (bv_one _)) (by unfold big; omega) ?_
  intro v10 w10 hown10 hb10
  have hown10 := ownApp hown10
  have hm10 : Below m w1 w10 := hm9.trans hb10
  have hw10 := hm10.size
  refine dn (d_then (mkS _ hm10) ?_)
  have hbw10 : Below m0 w w10 := hb.trans (hm10.mono (by omega))
  refine d_sole rfl (wN rfl) ?_
  refine r_call' (args := #[.agg [Value.bool X.vn, vv].toArray]) ?_ (c_foct_ok H (U := w10.heap.size) (n := X.vn) (Nat.le_refl _) (hv.below (by rw [hm0]; exact hbw10)) (by unfold big; omega)) ?_
  ·simp only [lM]
   simp (disch := (try simp only [sP]); omega) only [eV]
  rintro v11 w11 ⟨hown11, hb11⟩
  have hm11 : Below m w1 w11 := hm10.trans (hb11.mono (by omega))
  have hw11 := hm11.size
  refine dn (d_then (mkS _ hm11) ?_)
  refine d_sole rfl (wN rfl) ?_
  refine r_append (U := m) (v := v10) (n := (p ++ octW X.kn X.k).length) (xs := (p ++ octW X.kn X.k).map bv) (u := v11) (m := (octW X.vn X.v).length) (news := (octW X.vn X.v).map bv) H.row (by simp (disch := (try simp only [sP]); omega) only [eV]) (by simp (disch := (try simp only [sP]); omega) only [eV]) (own_below2 hown10 hb11) (by omega) (src_own (rB H.row) hown11 (bv_one _)) (by rw [List.length_append]; unfold big; omega) ?_
  intro v12 w12 hown12 hb12
  have hown12 := ownApp hown12
  have hm12 : Below m w1 w12 := hm11.trans hb12
  refine dn (d_then (mkS _ hm12) ?_)
  refine dP rfl rfl rfl (wN rfl) (by simp only [zP, hs4]; omega) (mkS _ hm12) (fun w' hS' => rA (dn ⟨rfl, rfl, rfl⟩)) ?_
  refine d_nil ?_
  refine vS (vT ?_)
  refine ⟨by simp only [dF]; exact hd4, v12, rO (by simp (disch := (try simp only [sP]); omega) only [eV]), ?_, (hb.trans (hm12.mono (by omega))).mono hU⟩
  rw [hwr]
  exact own_mono2 hown12 (by omega)
 refine vS (vX (rM ?_))
 refine r_gtr (k := .i64) (m := (if one then 1 else 0)) (n := 0) (by simp (disch := (try simp only [sP]); omega) only [eV, k0]) rfl ?_
 refine dn ?_
 cases one with
 | true =>
  refine vS (vC (t := true) (by simp (disch := (try simp only [sP]); omega) only [eV]; simp) (fun _ => ?_) (fun h => by cases h))
  refine vR (by simp) ?_
  refine rM ?_
  refine rF (b := m0) (o := 0) (by simp (disch := (try simp only [sP]); omega) only [eV, k3]) H.f5 ?_
  refine rL (b := m0) (o := 0 + 5) (v := .int .i64 X.time) (by simp (disch := (try simp only [sP]); omega) only [eV]) H.o64 (mkS _ hm7 5 _ rfl) ?_
  refine r_call' (args := #[.int .i64 X.time, .int .i64 (8 : Nat)]) ?_ (s_fixed (U := w7.heap.size) (n := X.time) (k := 8) H.fixed H.row H.u8 H.i64 H.int (by omega) (Nat.le_refl _)) ?_
  ·simp only [lM]
   simp (disch := (try simp only [sP]); omega) only [eV]
   rfl
  rintro v8 w8 ⟨hown8, hb8⟩
  have hw7 := hm7.size
  have hm8 : Below m w1 w8 := hm7.trans (hb8.mono (by omega))
  refine r_append (U := m) (v := v7) (n := X.head.length) (xs := X.head.map bv) (u := v8) (m := (be 8 X.time).length) (news := (be 8 X.time).map bv) H.row (by simp (disch := (try simp only [sP]); omega) only [eV, k5]) (by simp (disch := (try simp only [sP]); omega) only [eV]) (own_below2 hown7 hb8) (by have := hm8.size; omega) (src_own (rB H.row) hown8 (bv_one _)) (by simp only [be_len]; unfold big; omega) ?_
  intro v9 w9 hown9 hb9
  have hown9 := ownApp hown9
  refine rA (dn (vN ?_))
  refine fin _ v9 w9 (be 8 X.time) (by simp only [zP]; exact hsA3) (by simp only [dF]; exact hdA3) (by simp (disch := (try simp only [sP]); omega) only [eV, k3]) (by simp (disch := (try simp only [sP]); omega) only [eV]) (hm8.trans hb9) (by simp [be_len]) hown9 rfl
 | false =>
  refine vS (vC (t := false) (by simp (disch := (try simp only [sP]); omega) only [eV]; simp) (fun h => by cases h) (fun _ => ?_))
  refine vK (vN ?_)
  refine fin _ v7 w7 [] (by simp only [zP]; exact hsA3) (by simp only [dF]; exact hdA3) (by simp (disch := (try simp only [sP]); omega) only [eV, k3]) (by simp (disch := (try simp only [sP]); omega) only [eV, k5]) hm7 (by simp) (by rw [List.append_nil]; exact hown7) ?_
  simp [OX.wr, OX.head]
set_option maxHeartbeats 1000000 in
theorem c_sold_ok (H : OT P E C) {X Y : OX} {cs ds : List Value} {w : World} (hX : X.Rep P E w cs) (hY : Y.Rep P E w ds) (hx : X.ok) (hy : Y.ok) (hlx : X.k.length + X.v.length ≤ 1000000) (hly : Y.k.length + Y.v.length ≤ 1000000) :
  CallsV P C.sold #[.agg cs.toArray, .agg ds.toArray] w fun v w' => v = .bool (decide (X.wr true = Y.wr true)) ∧ Below w.heap.size w w' := by
 have hXc : cs.length = 10 := by obtain ⟨_, _, rfl, _⟩ := hX; rfl
 have hYc : ds.length = 10 := by obtain ⟨_, _, rfl, _⟩ := hY; rfl
 refine CallsV.enter H.tsold (by simp) ?_
 intro a hsz hdf harg
 have e0 := harg 0 (.agg cs.toArray) (by simp)
 have e1 := harg 1 (.agg ds.toArray) (by simp)
 unfold c_sameOld
 refine vX ?_
 refine r_box (v := .agg cs.toArray) (by simp (disch := (try simp only [sP]); omega) only [eV, e0]) ?_
 refine r_box (v := .agg ds.toArray) (by simp (disch := (try simp only [sP]); omega) only [eV, e1]) ?_
 refine rA (dn ?_)
 obtain ⟨hb1, hc1, hz1⟩ := boxed (w := w) (cs := cs) (T := C.tOld)
 generalize w.alloc (.cells (Value.agg cs.toArray).cells C.tOld) = w1 at *
 obtain ⟨hb2, hc2, hz2⟩ := boxed (w := w1) (cs := ds) (T := C.tOld)
 generalize w1.alloc (.cells (Value.agg ds.toArray).cells C.tOld) = w2 at *
 generalize hm1 : w1.heap.size = m1 at *
 have hc1 : Cells w2 w.heap.size 0 cs := hc1.below hb2 (by omega)
 have hbw2 : Below w.heap.size w w2 := hb1.trans (hb2.mono (by omega))
 generalize hG : Act.put _ (some 4) _ = G
 have hsG : G.tmps.size = 10 := by rw [← hG]; simp only [zP]; exact hsz
 have hdG : G.defers = [] := by rw [← hG]; simp only [dF]; exact hdf
 have k2 : G.eval (.tmp 2) = .pointer (some ⟨w.heap.size, 0, none⟩) := by rw [← hG]; simp (disch := (try simp only [sP]); omega) only [eV]
 have k3 : G.eval (.tmp 3) = .pointer (some ⟨m1, 0, none⟩) := by rw [← hG]; rw [← hm1]; simp (disch := (try simp only [sP]); omega) only [eV]
 clear hG
 have hbd : Below w2.heap.size w2 { w2 with drawn := w2.drawn + 1 } := below_drew w2
 have mkS : ∀ w', Below w2.heap.size w2 w' → Cells w' w.heap.size 0 cs ∧ Cells w' m1 0 ds := fun w' h => ⟨hc1.below h (by omega), hc2.below h (by omega)⟩
 have hS := mkS _ hbd
 refine vS (vc_rgd [(0, true), (2, true), (1, false), (3, false), (4, false), (5, true)] (fun W' => Cells W' w.heap.size 0 cs ∧ Cells W' m1 0 ds) H.mixed (by kernel_rfl) rfl (by kernel_rfl) (fun _ _ _ _ h => False.elim h) ?_)
 refine dP rfl rfl rfl (wN rfl) (by simp only [zP, hsG]; omega) hS (fun w' hS' => r_loadAgg (b := w.heap.size) (o := 0) (cs := cs) (by simp (disch := (try simp only [sP]); omega) only [eV, k2]) (by rw [hXc]; exact H.aOld) hS'.1 (dn ⟨rfl, rfl, rfl⟩)) ?_
 refine dP rfl rfl rfl (wN rfl) (by simp only [zP, hsG]; omega) hS (fun w' hS' => r_loadAgg (b := m1) (o := 0) (cs := ds) (by simp (disch := (try simp only [sP]); omega) only [eV, k3]) (by rw [hYc]; exact H.aOld) hS'.2 (dn ⟨rfl, rfl, rfl⟩)) ?_
 have hXd : X.Rep P E { w2 with drawn := w2.drawn + 1 } cs := by
  obtain ⟨kv, vv, h1, h2, h3⟩ := hX
  exact ⟨kv, vv, h1, h2.below (hbw2.trans (hbd.mono hbw2.size)), h3.below (hbw2.trans (hbd.mono hbw2.size))⟩
 refine d_sole rfl (wN rfl) ?_
 refine r_call' (args := #[.int .i64 (if true then 1 else 0), .agg cs.toArray]) ?_ (c_oldB_ok H (one := true) (U := w2.heap.size) (Nat.le_refl _) hx hXd hlx) ?_
 ·simp only [lM]
  simp (disch := (try simp only [sP]); omega) only [eV]
  rfl
 rintro v4 w4 ⟨hown4, hb4⟩
 have hb24 : Below w2.heap.size w2 w4 := hbd.trans hb4
 have hbw4 : Below w.heap.size w w4 := hbw2.trans (hb24.mono hbw2.size)
 have hYd : Y.Rep P E w4 ds := by
  obtain ⟨kv, vv, h1, h2, h3⟩ := hY
  exact ⟨kv, vv, h1, h2.below hbw4, h3.below hbw4⟩
 refine dn (d_then (mkS _ hb24) ?_)
 refine d_sole rfl (wN rfl) ?_
 refine r_call' (args := #[.int .i64 (if true then 1 else 0), .agg ds.toArray]) ?_ (c_oldB_ok H (one := true) (U := w4.heap.size) (Nat.le_refl _) hy hYd hly) ?_
 ·simp only [lM]
  simp (disch := (try simp only [sP]); omega) only [eV]
  rfl
 rintro v5 w5 ⟨hown5, hb5⟩
 have hb25 : Below w2.heap.size w2 w5 := hb24.trans (hb5.mono hb24.size)
 refine dn (d_then (mkS _ hb25) ?_)
 have hwl : ∀ Z : OX, Z.k.length + Z.v.length ≤ 1000000 → (Z.wr true).length ≤ big := by
  intro Z hz
  have h1 : (octW Z.kn Z.k).length ≤ 4 + Z.k.length := by unfold octW; cases Z.kn <;> simp [wrNBytes, wrBytes, be_len]
  have h2 : (octW Z.vn Z.v).length ≤ 4 + Z.v.length := by unfold octW; cases Z.vn <;> simp [wrNBytes, wrBytes, be_len]
  simp only [OX.wr, List.length_append, be_len, if_true]
  unfold big
  omega
 refine d_sole rfl (wN rfl) ?_
 refine r_call' (args := #[v4, v5]) ?_ (s_same (U := w5.heap.size) H.row H.oU8 H.mixed H.same (RowB.of_own (own_below2 hown4 hb5)) (RowB.of_own hown5) (hwl X hlx) (hwl Y hly)) ?_
 ·simp only [lM]
  simp (disch := (try simp only [sP]); omega) only [eV]
 rintro v6 w6 ⟨rfl, hb6⟩
 have hb26 : Below w2.heap.size w2 w6 := hb25.trans (hb6.mono hb25.size)
 refine dn (d_then (mkS _ hb26) ?_)
 refine dP rfl rfl rfl (wN rfl) (by simp only [zP, hsG]; omega) (mkS _ hb26) (fun w' hS' => rA (dn ⟨rfl, rfl, rfl⟩)) ?_
 refine d_nil ?_
 refine vS (vT ?_)
 exact ⟨by simp only [dF]; exact hdG, _, rO (by simp (disch := (try simp only [sP]); omega) only [eV]), rfl, hbw2.trans (hb26.mono hbw2.size)⟩
end
end Go.Km
namespace Go.Km
open Go Go.RowKit
attribute [local irreducible] vc rO_ runG runS runD
def fsV0 : Flds := .cons .all (.scal .i64 0) (.cons .all (.scal .i32 0) (.cons .all (.scal .i32 0) (.cons .all (.scal .i8 0) (.cons .all (.scal .i8 0) (.cons .all .nbytes (.cons .all .nbytes (.nil false)))))))
def fsV1 : Flds := .cons .all (.scal .i64 0) (.cons .all (.scal .i32 0) (.cons .all (.scal .i32 0) (.cons .all (.scal .i8 0) (.cons .all (.scal .i8 0) (.cons .all (.scal .i64 0) (.cons .all .nbytes (.cons .all .nbytes (.nil false))))))))
def fsV (one : Bool) : Flds := if one then fsV1 else fsV0
def opt (n : Bool) (l : List UInt8) : Option (List UInt8) := if n then none else some l
def OX.data (one : Bool) (X : OX) : List D := [.int X.off, .int X.size, .int X.crc, .int X.mag, .int X.att] ++ (if one then [.int X.time] else []) ++ [.bytes (opt X.kn X.k), .bytes (opt X.vn X.v)]
theorem data_wr (one : Bool) (X : OX) : (fsV one).wr false 0 (X.data one) [] = X.wr one := by
 cases one <;> simp [fsV, fsV0, fsV1, OX.data, OX.wr, Flds.wr, Ty.wr, Ver.has, Scal.wr, octW, opt]
theorem data_good (one : Bool) {X : OX} (h : X.ok) (hl : X.k.length + X.v.length ≤ 1000000) : (fsV one).good false 0 (X.data one) [] := by
 obtain ⟨h0, h1, h2, h3, h4, h5⟩ := h
 have hk : Ty.nbytes.good false 0 (.bytes (opt X.kn X.k)) := by
  unfold opt
  cases X.kn with
  | true => simp [Ty.good]
  | false => simp only [Bool.false_eq_true, if_false, Ty.good, octOk]; omega
 have hv : Ty.nbytes.good false 0 (.bytes (opt X.vn X.v)) := by
  unfold opt
  cases X.vn with
  | true => simp [Ty.good]
  | false => simp only [Bool.false_eq_true, if_false, Ty.good, octOk]; omega
 cases one
 ·simp only [fsV, fsV0, OX.data, Bool.false_eq_true, if_false, List.append_nil, List.cons_append, List.nil_append, Flds.good, Ver.has, if_true, Ty.good]
  exact ⟨h0, h1, h2, h3, h4, hk, hv, trivial⟩
 ·simp only [fsV, fsV1, OX.data, if_true, List.cons_append, List.nil_append, Flds.good, Ver.has, Ty.good]
  exact ⟨h0, h1, h2, h3, h4, h5, hk, hv, trivial⟩
theorem fsV_lp (one : Bool) : (fsV one).lp false 0 = true := by cases one <;> rfl
theorem old_rd (one : Bool) {X : OX} (h : X.ok) (hl : X.k.length + X.v.length ≤ 1000000) : (fsV one).rd false 0 (X.wr one, false) = (X.data one, [], [], false) := by
 have := Flds.rd_wr false 0 (fsV one) (X.data one) [] [] (fsV_lp one) (data_good one h hl)
 rw [List.append_nil, data_wr] at this
 exact this
theorem old_cut (one : Bool) {X : OX} (h : X.ok) (hl : X.k.length + X.v.length ≤ 1000000) {n : Nat} (hn : n < (X.wr one).length) : ((fsV one).rd false 0 ((X.wr one).take n, false)).2.2.2 = true := by
 cases hb : ((fsV one).rd false 0 ((X.wr one).take n, false)).2.2.2 with
 | true => rfl
 | false =>
  have h1 := Flds.rd_ext false 0 (fsV one) ((X.wr one).take n) ((X.wr one).drop n) hb
  rw [List.take_append_drop, old_rd one h hl] at h1
  have h2 := congrArg (fun p => p.2.2.1.length) h1
  simp only [List.length_nil, List.length_append, List.length_drop] at h2
  omega
def OX.got (one : Bool) (X : OX) : OX := { X with time := if one then X.time else 0, k := (opt X.kn X.k).getD [], v := (opt X.vn X.v).getD [] }
theorem octW_got (n : Bool) (l : List UInt8) : octW n ((opt n l).getD []) = octW n l := by cases n <;> simp [octW, opt]
section
variable {P : Program} {E : Env} {C : OC} {T : List (Nat × List UInt8) → Prop}
def OctX (P : Program) (E : Env) (w : World) (x : Value) (o : Option (List UInt8)) : Prop := (x = .slice none 0 0 ∧ o = none) ∨ ∃ l ad cap, o = some l ∧ x = .slice (some ad) l.length cap ∧ BytesIn P E w x l ∧ l.length ≤ big
theorem octX_of_rep (HB : rowB P E.tB E.tU8 1 = true) {w : World} {sb : Sb} {B : Nat} {cs : List Value} {o : Option (List UInt8)} (h : Ty.nbytes.Rep w sb B cs (.bytes o)) (hl : (o.getD []).length ≤ big) : ∃ x, cs = [x] ∧ OctX P E w x o := by
 cases o with
 | none => simp only [Ty.Rep] at h; exact ⟨_, h, .inl ⟨rfl, rfl⟩⟩
 | some l =>
  simp only [Ty.Rep] at h
  obtain ⟨q, oo, cap, rfl, _, hc, _⟩ := h
  exact ⟨_, rfl, .inr ⟨l, _, _, rfl, rfl, RowB.bytesIn HB (.inr ⟨q, oo, cap, rfl, hc⟩), hl⟩⟩
theorem OctX.below {w w' : World} {x : Value} {o : Option (List UInt8)} (h : OctX P E w x o) (hb : Below w.heap.size w w') : OctX P E w' x o := by
 rcases h with h | ⟨l, ad, cap, h1, h2, h3, h4⟩
 ·exact .inl h
 ·exact .inr ⟨l, ad, cap, h1, h2, h3.below hb, h4⟩
theorem old_cells (HB : rowB P E.tB E.tU8 1 = true) (one : Bool) {X : OX} {w : World} {sb : Sb} {B : Nat} {cs : List Value} (h : (fsV one).Rep w sb B cs (X.data one) []) (hk : X.k.length ≤ big) (hv : X.v.length ≤ big) :
  ∃ x y, cs = [.int .i64 X.off, .int .i32 X.size, .int .i32 X.crc, .int .i8 X.mag, .int .i8 X.att] ++ (if one then [.int .i64 X.time] else []) ++ [x, y] ∧ OctX P E w x (opt X.kn X.k) ∧ OctX P E w y (opt X.vn X.v) := by
 have ho : ∀ (n : Bool) (l : List UInt8), l.length ≤ big → ((opt n l).getD []).length ≤ big := by
  intro n l hl
  cases n <;> simp [opt, hl]
 have step : ∀ (s : Scal) (cs : List Value) (n : Int), (Ty.scal s 0).Rep w sb B (cs.take 1) (.int n) → ∃ r, cs = s.val n :: r := by
  intro s cs n h
  simp only [Ty.Rep] at h
  cases cs with
  | nil => simp at h
  | cons v r =>
   simp only [List.take_succ_cons, List.take_zero, List.cons.injEq, and_true] at h
   exact ⟨r, by rw [h.1]⟩
 have stepB : ∀ (cs : List Value) (o : Option (List UInt8)), (o.getD []).length ≤ big → Ty.nbytes.Rep w sb B (cs.take 1) (.bytes o) → ∃ x r, cs = x :: r ∧ OctX P E w x o := by
  intro cs o hl h
  obtain ⟨x, h1, h2⟩ := octX_of_rep HB h hl
  cases cs with
  | nil => simp at h1
  | cons v r =>
   simp only [List.take_succ_cons, List.take_zero, List.cons.injEq, and_true] at h1
   subst h1
   exact ⟨v, r, rfl, h2⟩
 cases one with
 | false =>
  simp only [fsV, fsV0, OX.data, Bool.false_eq_true, if_false, List.append_nil, List.cons_append, List.nil_append, Flds.Rep, Ty.size] at h
  obtain ⟨h0, h1, h2, h3, h4, h5, h6, h7⟩ := h
  obtain ⟨c1, rfl⟩ := step _ _ _ h0
  obtain ⟨c2, e1⟩ := step _ _ _ h1
  simp only [List.drop_succ_cons, List.drop_zero] at *
  subst e1
  simp only [List.drop_succ_cons, List.drop_zero] at *
  obtain ⟨c3, rfl⟩ := step _ _ _ h2
  simp only [List.drop_succ_cons, List.drop_zero] at *
  obtain ⟨c4, rfl⟩ := step _ _ _ h3
  simp only [List.drop_succ_cons, List.drop_zero] at *
  obtain ⟨c5, rfl⟩ := step _ _ _ h4
  simp only [List.drop_succ_cons, List.drop_zero] at *
  obtain ⟨x, c6, rfl, hx⟩ := stepB _ _ (ho _ _ hk) h5
  simp only [List.drop_succ_cons, List.drop_zero] at *
  obtain ⟨y, c7, rfl, hy⟩ := stepB _ _ (ho _ _ hv) h6
  simp only [List.drop_succ_cons, List.drop_zero, Bool.false_eq_true, if_false] at *
  obtain ⟨rfl, _⟩ := h7
  exact ⟨x, y, rfl, hx, hy⟩
 | true =>
  simp only [fsV, fsV1, OX.data, if_true, List.cons_append, List.nil_append, Flds.Rep, Ty.size] at h
  obtain ⟨h0, h1, h2, h3, h4, h8, h5, h6, h7⟩ := h
  obtain ⟨c1, rfl⟩ := step _ _ _ h0
  simp only [List.drop_succ_cons, List.drop_zero] at *
  obtain ⟨c2, rfl⟩ := step _ _ _ h1
  simp only [List.drop_succ_cons, List.drop_zero] at *
  obtain ⟨c3, rfl⟩ := step _ _ _ h2
  simp only [List.drop_succ_cons, List.drop_zero] at *
  obtain ⟨c4, rfl⟩ := step _ _ _ h3
  simp only [List.drop_succ_cons, List.drop_zero] at *
  obtain ⟨c5, rfl⟩ := step _ _ _ h4
  simp only [List.drop_succ_cons, List.drop_zero] at *
  obtain ⟨c8, rfl⟩ := step _ _ _ h8
  simp only [List.drop_succ_cons, List.drop_zero] at *
  obtain ⟨x, c6, rfl, hx⟩ := stepB _ _ (ho _ _ hk) h5
  simp only [List.drop_succ_cons, List.drop_zero] at *
  obtain ⟨y, c7, rfl, hy⟩ := stepB _ _ (ho _ _ hv) h6
  simp only [List.drop_succ_cons, List.drop_zero, Bool.false_eq_true, if_false] at *
  obtain ⟨rfl, _⟩ := h7
  exact ⟨x, y, rfl, hx, hy⟩
theorem results_cell_tmp {a : Act} {w : World} {t u : Nat} {T : TypeId} {b o : Nat} {cs : List Value} {x : Value} (h : a.eval (.tmp t) = .pointer (some ⟨b, o, none⟩)) (hT : aggT P T = some cs.length) (hc : Cells w b o cs) (h2 : a.eval (.tmp u) = x) :
  (results { (default : Func) with results := #[.cell t T, .tmp u] } a.tmps).run P w = .ok (.tuple #[.agg cs.toArray, x]) w := by
 obtain ⟨h1, h3⟩ := aggT_inv hT
 have hl : (loadVar T ⟨b, o, none⟩).run P w = .ok (.agg cs.toArray) w := by
  simp only [loadVar, Sem.run_bind, h1, Result.andThen_ok, if_true, h3, run_loadCells hc, Sem.run_pure]
 have h' : a.tmps[t]?.getD undef = .pointer (some ⟨b, o, none⟩) := by simpa [Act.eval] using h
 have h2' : a.tmps[u]?.getD undef = x := by simpa [Act.eval] using h2
 simp [results, h', h2', asAddr, hl]
def c_tellX (E : Env) (C : OC) (TV : TypeId) (RF : FuncId) (R : Code) : Code :=
 (sq [(rg [(oQ 2 (.alloc C.tOld) 0),
   (oQ 3 (.assign (.const (.bool false))) E.tO)]),
  (rg [(oQ 4 (.alloc TV) 0)]),
  (sq [(rg [(oQ 5 (.move (.tmp 0)) E.tB),
    (oQ 6 (.call { callee := .value (.func C.own), args := #[(.tmp 5)], argTypes := #[E.tB] }) E.tB),
    (oQ 7 (.call { callee := .value (.func RF), args := #[(.tmp 4), (.tmp 6)], argTypes := #[TV, E.tB] }) E.tErr),
    (oQ 8 (.binOp .neq E.tErr (.tmp 7) (.const .nilIface) E.tErr) E.tO)]),
   (.cond (.tmp 8)
    (sq [(rg [(oQ 9 (.build C.tOld #[]) C.tOld),
      ⟨none, .store C.tOld (.tmp 2) (.tmp 9), 0, "", #[], none⟩,
      (oQ 3 (.assign (.const (.bool false))) E.tO)]),
     .ret])
    .skip)]),
  R,
  .ret])
def c_tellR0 (E : Env) (C : OC) : Code :=
 (rgd [(oQ 10 (.fieldAddr C.tV (.tmp 4) 0) 0),
   ⟨some 11, .load E.tI64 (.tmp 10), E.tI64, "", #[⟨0, .data⟩], none⟩,
   (oQ 12 (.fieldAddr C.tV (.tmp 4) 1) 0),
   ⟨some 13, .load E.tI32 (.tmp 12), E.tI32, "", #[⟨2, .data⟩], none⟩,
   (oQ 14 (.fieldAddr C.tV (.tmp 4) 2) 0),
   ⟨some 15, .load E.tI32 (.tmp 14), E.tI32, "", #[⟨4, .data⟩], none⟩,
   (oQ 16 (.fieldAddr C.tV (.tmp 4) 3) 0),
   ⟨some 17, .load E.tI8 (.tmp 16), E.tI8, "", #[⟨6, .data⟩], none⟩,
   (oQ 18 (.fieldAddr C.tV (.tmp 4) 4) 0),
   ⟨some 19, .load E.tI8 (.tmp 18), E.tI8, "", #[⟨8, .data⟩], none⟩,
   (oQ 20 (.fieldAddr C.tV (.tmp 4) 5) 0),
   ⟨some 21, .load E.tB (.tmp 20), E.tB, "", #[⟨10, .data⟩], none⟩,
   ⟨some 22, .call { callee := .value (.func C.octets), args := #[(.tmp 21)], argTypes := #[E.tB] }, C.tOct, "", #[⟨11, .data⟩], none⟩,
   (oQ 23 (.fieldAddr C.tV (.tmp 4) 6) 0),
   ⟨some 24, .load E.tB (.tmp 23), E.tB, "", #[⟨13, .data⟩], none⟩,
   ⟨some 25, .call { callee := .value (.func C.octets), args := #[(.tmp 24)], argTypes := #[E.tB] }, C.tOct, "", #[⟨14, .data⟩, ⟨12, .chain⟩], none⟩,
   ⟨some 26, .build C.tOld #[(0, (.tmp 11)), (1, (.tmp 13)), (2, (.tmp 15)), (3, (.tmp 17)), (4, (.tmp 19)), (6, (.tmp 22)), (7, (.tmp 25))], C.tOld, "", #[⟨1, .data⟩, ⟨3, .data⟩, ⟨5, .data⟩, ⟨7, .data⟩, ⟨9, .data⟩, ⟨12, .data⟩, ⟨15, .data⟩], none⟩,
   ⟨none, .store C.tOld (.tmp 2) (.tmp 26), 0, "", #[⟨16, .data⟩, ⟨15, .chain⟩, ⟨0, .phase⟩, ⟨1, .phase⟩, ⟨2, .phase⟩, ⟨3, .phase⟩, ⟨4, .phase⟩, ⟨5, .phase⟩, ⟨6, .phase⟩, ⟨7, .phase⟩, ⟨8, .phase⟩, ⟨9, .phase⟩, ⟨10, .phase⟩, ⟨11, .phase⟩, ⟨12, .phase⟩, ⟨13, .phase⟩, ⟨14, .phase⟩, ⟨15, .phase⟩, ⟨16, .phase⟩], none⟩,
   ⟨some 3, .assign (.const (.bool true)), E.tO, "", #[⟨17, .chain⟩, ⟨0, .phase⟩, ⟨1, .phase⟩, ⟨2, .phase⟩, ⟨3, .phase⟩, ⟨4, .phase⟩, ⟨5, .phase⟩, ⟨6, .phase⟩, ⟨7, .phase⟩, ⟨8, .phase⟩, ⟨9, .phase⟩, ⟨10, .phase⟩, ⟨11, .phase⟩, ⟨12, .phase⟩, ⟨13, .phase⟩, ⟨14, .phase⟩, ⟨15, .phase⟩, ⟨16, .phase⟩, ⟨17, .phase⟩], none⟩])
def c_tellR1 (E : Env) (C : OC) : Code :=
 (rgd [(oQ 10 (.fieldAddr C.tV1 (.tmp 4) 0) 0),
   ⟨some 11, .load E.tI64 (.tmp 10), E.tI64, "", #[⟨0, .data⟩], none⟩,
   (oQ 12 (.fieldAddr C.tV1 (.tmp 4) 1) 0),
   ⟨some 13, .load E.tI32 (.tmp 12), E.tI32, "", #[⟨2, .data⟩], none⟩,
   (oQ 14 (.fieldAddr C.tV1 (.tmp 4) 2) 0),
   ⟨some 15, .load E.tI32 (.tmp 14), E.tI32, "", #[⟨4, .data⟩], none⟩,
   (oQ 16 (.fieldAddr C.tV1 (.tmp 4) 3) 0),
   ⟨some 17, .load E.tI8 (.tmp 16), E.tI8, "", #[⟨6, .data⟩], none⟩,
   (oQ 18 (.fieldAddr C.tV1 (.tmp 4) 4) 0),
   ⟨some 19, .load E.tI8 (.tmp 18), E.tI8, "", #[⟨8, .data⟩], none⟩,
   (oQ 20 (.fieldAddr C.tV1 (.tmp 4) 5) 0),
   ⟨some 21, .load E.tI64 (.tmp 20), E.tI64, "", #[⟨10, .data⟩], none⟩,
   (oQ 22 (.fieldAddr C.tV1 (.tmp 4) 6) 0),
   ⟨some 23, .load E.tB (.tmp 22), E.tB, "", #[⟨12, .data⟩], none⟩,
   ⟨some 24, .call { callee := .value (.func C.octets), args := #[(.tmp 23)], argTypes := #[E.tB] }, C.tOct, "", #[⟨13, .data⟩], none⟩,
   (oQ 25 (.fieldAddr C.tV1 (.tmp 4) 7) 0),
   ⟨some 26, .load E.tB (.tmp 25), E.tB, "", #[⟨15, .data⟩], none⟩,
   ⟨some 27, .call { callee := .value (.func C.octets), args := #[(.tmp 26)], argTypes := #[E.tB] }, C.tOct, "", #[⟨16, .data⟩, ⟨14, .chain⟩], none⟩,
   ⟨some 28, .build C.tOld #[(0, (.tmp 11)), (1, (.tmp 13)), (2, (.tmp 15)), (3, (.tmp 17)), (4, (.tmp 19)), (5, (.tmp 21)), (6, (.tmp 24)), (7, (.tmp 27))], C.tOld, "", #[⟨1, .data⟩, ⟨3, .data⟩, ⟨5, .data⟩, ⟨7, .data⟩, ⟨9, .data⟩, ⟨11, .data⟩, ⟨14, .data⟩, ⟨17, .data⟩], none⟩,
   ⟨none, .store C.tOld (.tmp 2) (.tmp 28), 0, "", #[⟨18, .data⟩, ⟨17, .chain⟩, ⟨0, .phase⟩, ⟨1, .phase⟩, ⟨2, .phase⟩, ⟨3, .phase⟩, ⟨4, .phase⟩, ⟨5, .phase⟩, ⟨6, .phase⟩, ⟨7, .phase⟩, ⟨8, .phase⟩, ⟨9, .phase⟩, ⟨10, .phase⟩, ⟨11, .phase⟩, ⟨12, .phase⟩, ⟨13, .phase⟩, ⟨14, .phase⟩, ⟨15, .phase⟩, ⟨16, .phase⟩, ⟨17, .phase⟩, ⟨18, .phase⟩], none⟩,
   ⟨some 3, .assign (.const (.bool true)), E.tO, "", #[⟨19, .chain⟩, ⟨0, .phase⟩, ⟨1, .phase⟩, ⟨2, .phase⟩, ⟨3, .phase⟩, ⟨4, .phase⟩, ⟨5, .phase⟩, ⟨6, .phase⟩, ⟨7, .phase⟩, ⟨8, .phase⟩, ⟨9, .phase⟩, ⟨10, .phase⟩, ⟨11, .phase⟩, ⟨12, .phase⟩, ⟨13, .phase⟩, ⟨14, .phase⟩, ⟨15, .phase⟩, ⟨16, .phase⟩, ⟨17, .phase⟩, ⟨18, .phase⟩, ⟨19, .phase⟩], none⟩])
def TellV (P : Program) (E : Env) (one : Bool) (l : List UInt8) (X : OX) (w : World) (r : Value) (w' : World) : Prop :=
 Below w.heap.size w w' ∧ if ((fsV one).rd false 0 (l, false)).2.2.2 then ∃ cs : List Value, r = .tuple #[.agg cs.toArray, .bool false] ∧ cs.length = 10 ∧ (∀ v ∈ cs, v.oneCell' = true)
  else ∃ cs, r = .tuple #[.agg cs.toArray, .bool true] ∧ (X.got one).Rep P E w' cs
def zOld : List Value := [.int .i64 0, .int .i32 0, .int .i32 0, .int .i8 0, .int .i8 0, .int .i64 0, .bool false, .slice none 0 0, .bool false, .slice none 0 0]
set_option maxHeartbeats 4000000 in
theorem c_tellX_ok (H : OT P E C) (HR : EnvR P E T) (HX : EnvRX P E) (oE : ifaceT P E.tErr = true) {one : Bool} {TV TU : TypeId} {FD f RF RD : FuncId} {m : Msg} {R : Code} {np nt npr nrf npf : Nat}
  (ht : Text P f np nt #[.cell 2 C.tOld, .tmp 3] (c_tellX E C TV RF R)) (hnt : 10 ≤ nt) (hrf : Text P RF npf nrf #[.tmp 4] (c_rfw E m RD)) (hnrf : 8 ≤ nrf) (hrd : Text P RD npr (9 + (fsV one).ln + 5 + 5 * (fsV one).ln + 1) #[.tmp 6] (c_readO E m.TP TV FD (fsV one))) (hfd : Text P FD 1 2 #[] .skip) (hok : (fsV one).okO P E TV 0 = true)
  (hzV : (zeroT P TV).map (·.cells.size) = some (fsV one).ln) {sv ev : Value} {l : List UInt8} {w : World} (hin : BytesIn P E w sv l) (hl : l.length ≤ big) (he : w.cell? ⟨E.vErr, 0, none⟩ = some ev) (hev : ∃ u z, ev = .iface u z) {X : OX} (hX : ((fsV one).rd false 0 (l, false)).2.2.2 = false → ((fsV one).rd false 0 (l, false)).1 = X.data one)
  (hR : ((fsV one).rd false 0 (l, false)).2.2.2 = false → ∀ (A : Act) (W : World) (q4 : Nat) (cs : List Value) (sb : Sb) (B : Nat), A.tmps.size = nt → A.defers = [] → A.eval (.tmp 2) = .pointer (some ⟨w.heap.size, 0, none⟩) → A.eval (.tmp 4) = .pointer (some ⟨q4, 0, none⟩) → Below w.heap.size w W → (∀ i, i < 10 → Free W w.heap.size (0 + i)) → w.heap.size < q4 → q4 < W.heap.size →
   Cells W q4 0 cs → (fsV one).Rep W sb B cs (X.data one) [] → vc P (sq [R, .ret]) (Out P #[.cell 2 C.tOld, .tmp 3] fun r w' => Below w.heap.size w w' ∧ ∃ cs, r = .tuple #[.agg cs.toArray, .bool true] ∧ (X.got one).Rep P E w' cs) A W) :
  CallsV P f #[sv] w fun r w' => TellV P E one l X w r w' := by
 obtain ⟨zO, hzO, hzOc⟩ := lays_zero H.lOld
 obtain ⟨zV, hzV0, hzVl⟩ : ∃ z, zeroT P TV = some z ∧ z.cells.size = (fsV one).ln := by
  cases h : zeroT P TV with
  | none => rw [h] at hzV; cases hzV
  | some z => rw [h] at hzV; exact ⟨z, rfl, by simpa using hzV⟩
 have hevlt : E.vErr < w.heap.size := lt_of_cell he
 refine CallsV.enter ht (by simp; omega) ?_
 intro a hsz hdf harg
 have e0 := harg 0 sv (by simp)
 unfold c_tellX
 refine vX ?_
 refine r_alloc hzO ?_
 refine rA (dn ?_)
 have hb1 : Below w.heap.size w (w.alloc (.cells zO.cells C.tOld)) := (Below.refl _ w).alloc (o := .cells _ _) (Nat.le_refl _)
 have hf1 : ∀ i, i < 10 → Free (w.alloc (.cells zO.cells C.tOld)) w.heap.size (0 + i) := fun i hi => by
  rw [Nat.zero_add]
  exact free_new w _ _ (by rw [hzOc]; simpa using hi)
 have hz1 : (w.alloc (.cells zO.cells C.tOld)).heap.size = w.heap.size + 1 := by simp
 generalize w.alloc (.cells zO.cells C.tOld) = w1 at *
 refine vX ?_
 refine r_alloc hzV0 ?_
 refine dn ?_
 have hb2 : Below w1.heap.size w1 (w1.alloc (.cells zV.cells TV)) := (Below.refl _ w1).alloc (o := .cells _ _) (Nat.le_refl _)
 have hf2 : ∀ i, i < (fsV one).ln → Free (w1.alloc (.cells zV.cells TV)) w1.heap.size i := fun i hi => free_new w1 _ _ (by rw [hzVl]; exact hi)
 have hz2 : (w1.alloc (.cells zV.cells TV)).heap.size = w1.heap.size + 1 := by simp
 generalize w1.alloc (.cells zV.cells TV) = w2 at *
 generalize hq4 : w1.heap.size = q4 at *
 have hbw2 : Below w.heap.size w w2 := hb1.trans (hb2.mono (by omega))
 generalize hG : Act.put _ (some 4) _ = G
 have hsG : G.tmps.size = nt := by rw [← hG]; simp only [zP]; exact hsz
 have hdG : G.defers = [] := by rw [← hG]; simp only [dF]; exact hdf
 have k0 : G.eval (.tmp 0) = sv := by rw [← hG]; simp (disch := (try simp only [sP]); omega) only [eV, e0]
 have k2 : G.eval (.tmp 2) = .pointer (some ⟨w.heap.size, 0, none⟩) := by rw [← hG]; simp (disch := (try simp only [sP]); omega) only [eV]
 have k4 : G.eval (.tmp 4) = .pointer (some ⟨q4, 0, none⟩) := by rw [← hG]; simp (disch := (try simp only [sP]); omega) only [eV]
 clear hG
 refine vS (vX (rM ?_))
 refine r_call' (args := #[sv]) ?_ (c_own_ok H.town (by omega) H.row (hin.below hbw2) hl) ?_
 ·simp only [lM]
  simp (disch := (try simp only [sP]); omega) only [eV, k0]
 rintro v3 w3 ⟨hown3, hb3⟩
 have hz3 := hb3.size
 obtain ⟨sb, hsv, hsb, hsbc⟩ := own_src (d := E.vErr) hown3 (by omega) (by omega)
 have hbw3 : Below w.heap.size w w3 := hbw2.trans (hb3.mono (by omega))
 have hev3 : w3.cell? ⟨E.vErr, 0, none⟩ = some ev := by rw [hbw3.cell (p := ⟨E.vErr, 0, none⟩) hevlt]; exact he
 have hf3 : ∀ i, i < (fsV one).ln → Free w3 q4 i := fun i hi => (hf2 i hi).eff (Eff.of_below (M := fun _ _ => False) hb3)
 have hf13 : ∀ i, i < 10 → Free w3 w.heap.size (0 + i) := fun i hi => (hf1 i hi).eff (Eff.of_below (M := fun _ _ => False) (by rw [hq4]; exact hb2.trans (hb3.mono (by omega))))
 refine r_call' (args := #[.pointer (some ⟨q4, 0, none⟩), v3]) ?_ (c_rfO_ok hrf hnrf (c_readO_ok (T := T) HR HX hrd hfd hok hf3 (by omega) hsv hsb hl hev3 (by omega) (by omega))) ?_
 ·simp only [lM]
  simp (disch := (try simp only [sP]); omega) only [eV, k4]
 rintro x w4 ⟨hxv, hE4, cs, ds, hcl, hcc, hrep, hds⟩
 have hz4 := hE4.size
 have hbw4 : Below w.heap.size w w4 := hbw3.trans (hE4.below (by omega) (by rintro k i hk rfl; omega))
 refine r_neqNil (v := x) oE (by simp (disch := (try simp only [sP]); omega) only [eV]) (by rw [hxv]; split; exact .inr hev; exact .inl rfl) ?_
 refine dn ?_
 have hcv : isErr x = ((fsV one).rd false 0 (l, false)).2.2.2 := by
  rw [hxv]
  obtain ⟨u, z, rfl⟩ := hev
  cases ((fsV one).rd false 0 (l, false)).2.2.2 <;> rfl
 rw [hcv]
 have hf14 : ∀ i, i < 10 → Free w4 w.heap.size (0 + i) := fun i hi => (hf13 i hi).eff hE4
 generalize hG2 : Act.put _ (some 8) _ = G2
 have hsG2 : G2.tmps.size = nt := by rw [← hG2]; simp only [zP]; exact hsG
 have hdG2 : G2.defers = [] := by rw [← hG2]; simp only [dF]; exact hdG
 have k2 : G2.eval (.tmp 2) = .pointer (some ⟨w.heap.size, 0, none⟩) := by rw [← hG2]; simp (disch := (try simp only [sP]); omega) only [eV, k2]
 have k4 : G2.eval (.tmp 4) = .pointer (some ⟨q4, 0, none⟩) := by rw [← hG2]; simp (disch := (try simp only [sP]); omega) only [eV, k4]
 have k8 : G2.eval (.tmp 8) = .bool ((fsV one).rd false 0 (l, false)).2.2.2 := by rw [← hG2]; simp (disch := (try simp only [sP]); omega) only [eV]
 clear hG2
 unfold TellV
 refine vS (vC (t := ((fsV one).rd false 0 (l, false)).2.2.2) k8 ?_ ?_)
 ·intro h
  rw [h]
  refine vX ?_
  refine r_build (cells := zOld.toArray) H.lOld (by simp [Instr.fill, zOld]) ?_
  refine r_storeAgg (b := w.heap.size) (o := 0) (cs := zOld) (by simp (disch := (try simp only [sP]); omega) only [eV, k2]) (by simp (disch := (try simp only [sP]); omega) only [eV]) (by intro v hv; simp only [zOld, List.mem_cons, List.not_mem_nil, or_false] at hv; rcases hv with rfl | rfl | rfl | rfl | rfl | rfl | rfl | rfl | rfl | rfl <;> rfl) H.aOld (fun i hi => hf14 i (by simpa [zOld] using hi)) ?_
  refine rA (dn ?_)
  have hcb : Cells (setCells w4 w.heap.size 0 zOld) w.heap.size 0 zOld := fun i v hv => setCells_cell _ _ _ _ (fun j hj => (hf14 j (by simpa [zOld] using hj)).1) i v hv
  have hE := setCells_eff w.heap.size zOld w4 0
  refine vS (vT ?_)
  refine ⟨by simp only [dF]; exact hdG2, _, results_cell_tmp (b := w.heap.size) (o := 0) (cs := zOld) (x := .bool false) (by simp (disch := (try simp only [sP]); omega) only [eV, k2]) H.aOld hcb (by simp (disch := (try simp only [sP]); omega) only [eV]), hbw4.trans (hE.below (by omega) (by rintro k i hk ⟨h, _⟩; omega)), ?_⟩
  rw [if_pos rfl]
  refine ⟨zOld, rfl, rfl, ?_⟩
  intro v hv
  simp only [zOld, List.mem_cons, List.not_mem_nil, or_false] at hv
  rcases hv with rfl | rfl | rfl | rfl | rfl | rfl | rfl | rfl | rfl | rfl <;> rfl
 ·intro h
  rw [h]
  refine vK (vN ?_)
  have hdx : ds = X.data one := (hds h).trans (hX h)
  subst hdx
  refine vc_mono _ (hR h G2 w4 q4 cs ⟨sb, T⟩ _ hsG2 hdG2 k2 k4 hbw4 hf14 (by omega) (by omega) hcc hrep) ?_
  intro e A W hA
  cases e with
  | ret =>
   obtain ⟨g1, r, g2, g3, g4⟩ := hA
   exact ⟨g1, r, g2, g3, by rw [if_neg (by simp)]; exact g4⟩
  | normal =>
   obtain ⟨g1, r, g2, g3, g4⟩ := hA
   exact ⟨g1, r, g2, g3, by rw [if_neg (by simp)]; exact g4⟩
  | _ => exact hA
end
end Go.Km
namespace Go.Km
open Go Go.RowKit
attribute [local irreducible] vc rO_ runG runS runD
section
variable {P : Program} {E : Env} {C : OC}
theorem OctX.arg {w : World} {x : Value} {o : Option (List UInt8)} (h : OctX P E w x o) : (x = .slice none 0 0 ∧ o = none) ∨ ∃ l ad cap, o = some l ∧ x = .slice (some ad) l.length cap ∧ BytesIn P E w x l ∧ l.length ≤ big := h
set_option maxHeartbeats 4000000 in
theorem c_tellR0_ok (H : OT P E C) (hfo : ∀ i, i < 7 → fieldOff P C.tV i = some i) {A : Act} {W w : World} {q4 : Nat} {cs : List Value} {sb : Sb} {B : Nat} (hs : A.tmps.size = 27) (hd : A.defers = []) (k2 : A.eval (.tmp 2) = .pointer (some ⟨w.heap.size, 0, none⟩)) (k4 : A.eval (.tmp 4) = .pointer (some ⟨q4, 0, none⟩))
  (hb : Below w.heap.size w W) (hf : ∀ i, i < 10 → Free W w.heap.size (0 + i)) (hq : w.heap.size < q4) (hq2 : q4 < W.heap.size) (hc : Cells W q4 0 cs) {X : OX} (hrep : (fsV false).Rep W sb B cs (X.data false) []) (hk : X.k.length ≤ big) (hv : X.v.length ≤ big) :
  vc P (sq [c_tellR0 E C, .ret]) (Out P #[.cell 2 C.tOld, .tmp 3] fun r w' => Below w.heap.size w w' ∧ ∃ cs, r = .tuple #[.agg cs.toArray, .bool true] ∧ (X.got false).Rep P E w' cs) A W := by
 obtain ⟨x, y, hcs, hx, hy⟩ := old_cells H.row false hrep hk hv
 have hcs' : cs = [.int .i64 X.off, .int .i32 X.size, .int .i32 X.crc, .int .i8 X.mag, .int .i8 X.att, x, y] := by rw [hcs]; rfl
 subst hcs'
 have hbd : Below W.heap.size W { W with drawn := W.drawn + 1 } := below_drew W
 have mkS : ∀ w', Below W.heap.size W w' → Cells w' q4 0 [.int .i64 X.off, .int .i32 X.size, .int .i32 X.crc, .int .i8 X.mag, .int .i8 X.att, x, y] := fun w' h => hc.below h (by omega)
 have hS := mkS _ hbd
 have hx1 : x.oneCell' = true := by rcases hx with ⟨rfl, _⟩ | ⟨_, _, _, _, rfl, _⟩ <;> rfl
 have hy1 : y.oneCell' = true := by rcases hy with ⟨rfl, _⟩ | ⟨_, _, _, _, rfl, _⟩ <;> rfl
 unfold c_tellR0
 refine vS (vc_rgd [(0, true), (1, true), (2, true), (3, true), (4, true), (5, true), (6, true), (7, true), (8, true), (9, true), (10, true), (11, true), (13, true), (14, true), (12, false), (15, false), (16, false), (17, false), (18, true)] (fun W' => Cells W' q4 0 [.int .i64 X.off, .int .i32 X.size, .int .i32 X.crc, .int .i8 X.mag, .int .i8 X.att, x, y]) H.mixed (by kernel_rfl) rfl (by kernel_rfl) (fun _ _ _ _ h => False.elim h) ?_)
 refine dP rfl rfl rfl (wN rfl) (by simp only [zP, hs]; omega) hS (fun w' hS' => rF (b := q4) (o := 0) (by simp (disch := (try simp only [sP]); omega) only [eV, k4]) (hfo 0 (by omega)) (dn ⟨rfl, rfl, rfl⟩)) ?_
 refine dP rfl rfl rfl (wN rfl) (by simp only [zP, hs]; omega) hS (fun w' hS' => rL (b := q4) (o := 0 + 0) (v := .int .i64 X.off) (by simp (disch := (try simp only [sP]); omega) only [eV]) H.o64 (hS' 0 _ rfl) (dn ⟨rfl, rfl, rfl⟩)) ?_
 refine dP rfl rfl rfl (wN rfl) (by simp only [zP, hs]; omega) hS (fun w' hS' => rF (b := q4) (o := 0) (by simp (disch := (try simp only [sP]); omega) only [eV, k4]) (hfo 1 (by omega)) (dn ⟨rfl, rfl, rfl⟩)) ?_
 refine dP rfl rfl rfl (wN rfl) (by simp only [zP, hs]; omega) hS (fun w' hS' => rL (b := q4) (o := 0 + 1) (v := .int .i32 X.size) (by simp (disch := (try simp only [sP]); omega) only [eV]) H.o32 (hS' 1 _ rfl) (dn ⟨rfl, rfl, rfl⟩)) ?_
 refine dP rfl rfl rfl (wN rfl) (by simp only [zP, hs]; omega) hS (fun w' hS' => rF (b := q4) (o := 0) (by simp (disch := (try simp only [sP]); omega) only [eV, k4]) (hfo 2 (by omega)) (dn ⟨rfl, rfl, rfl⟩)) ?_
 refine dP rfl rfl rfl (wN rfl) (by simp only [zP, hs]; omega) hS (fun w' hS' => rL (b := q4) (o := 0 + 2) (v := .int .i32 X.crc) (by simp (disch := (try simp only [sP]); omega) only [eV]) H.o32 (hS' 2 _ rfl) (dn ⟨rfl, rfl, rfl⟩)) ?_
 refine dP rfl rfl rfl (wN rfl) (by simp only [zP, hs]; omega) hS (fun w' hS' => rF (b := q4) (o := 0) (by simp (disch := (try simp only [sP]); omega) only [eV, k4]) (hfo 3 (by omega)) (dn ⟨rfl, rfl, rfl⟩)) ?_
 refine dP rfl rfl rfl (wN rfl) (by simp only [zP, hs]; omega) hS (fun w' hS' => rL (b := q4) (o := 0 + 3) (v := .int .i8 X.mag) (by simp (disch := (try simp only [sP]); omega) only [eV]) H.o8 (hS' 3 _ rfl) (dn ⟨rfl, rfl, rfl⟩)) ?_
 refine dP rfl rfl rfl (wN rfl) (by simp only [zP, hs]; omega) hS (fun w' hS' => rF (b := q4) (o := 0) (by simp (disch := (try simp only [sP]); omega) only [eV, k4]) (hfo 4 (by omega)) (dn ⟨rfl, rfl, rfl⟩)) ?_
 refine dP rfl rfl rfl (wN rfl) (by simp only [zP, hs]; omega) hS (fun w' hS' => rL (b := q4) (o := 0 + 4) (v := .int .i8 X.att) (by simp (disch := (try simp only [sP]); omega) only [eV]) H.o8 (hS' 4 _ rfl) (dn ⟨rfl, rfl, rfl⟩)) ?_
 refine dP rfl rfl rfl (wN rfl) (by simp only [zP, hs]; omega) hS (fun w' hS' => rF (b := q4) (o := 0) (by simp (disch := (try simp only [sP]); omega) only [eV, k4]) (hfo 5 (by omega)) (dn ⟨rfl, rfl, rfl⟩)) ?_
 refine dP rfl rfl rfl (wN rfl) (by simp only [zP, hs]; omega) hS (fun w' hS' => rL (b := q4) (o := 0 + 5) (v := x) (by simp (disch := (try simp only [sP]); omega) only [eV]) H.oB (hS' 5 _ rfl) (dn ⟨rfl, rfl, rfl⟩)) ?_
 refine dP rfl rfl rfl (wN rfl) (by simp only [zP, hs]; omega) hS (fun w' hS' => rF (b := q4) (o := 0) (by simp (disch := (try simp only [sP]); omega) only [eV, k4]) (hfo 6 (by omega)) (dn ⟨rfl, rfl, rfl⟩)) ?_
 refine dP rfl rfl rfl (wN rfl) (by simp only [zP, hs]; omega) hS (fun w' hS' => rL (b := q4) (o := 0 + 6) (v := y) (by simp (disch := (try simp only [sP]); omega) only [eV]) H.oB (hS' 6 _ rfl) (dn ⟨rfl, rfl, rfl⟩)) ?_
 refine d_sole rfl (wN rfl) ?_
 refine r_call' (args := #[x]) ?_ (c_octets_ok H (hx.below hbd)) ?_
 ·simp only [lM]
  simp (disch := (try simp only [sP]); omega) only [eV]
 rintro v1 w1 ⟨xk, rfl, hxk, hqk, hb1⟩
 have hW1 : Below W.heap.size W w1 := hbd.trans (hb1.mono (Nat.le_refl _))
 refine dn (d_then (mkS _ hW1) ?_)
 refine d_sole rfl (wN rfl) ?_
 refine r_call' (args := #[y]) ?_ (c_octets_ok H (hy.below hW1)) ?_
 ·simp only [lM]
  simp (disch := (try simp only [sP]); omega) only [eV]
 rintro v2 w2 ⟨xv, rfl, hxv, hqv, hb2⟩
 have hz1 := hW1.size
 have hW2 : Below W.heap.size W w2 := hW1.trans (hb2.mono hz1)
 have hz2 := hW2.size
 refine dn (d_then (mkS _ hW2) ?_)
 have ho1 : xk.oneCell' = true ∧ xv.oneCell' = true := by
  obtain ⟨_, _, rfl⟩ := hxk.form
  obtain ⟨_, _, rfl⟩ := hxv.form
  exact ⟨rfl, rfl⟩
 generalize hG : Act.put _ (some 25) _ = G
 have hsG : G.tmps.size = 27 := by rw [← hG]; simp only [zP]; exact hs
 have hdG : G.defers = [] := by rw [← hG]; simp only [dF]; exact hd
 have g2 : G.eval (.tmp 2) = .pointer (some ⟨w.heap.size, 0, none⟩) := by rw [← hG]; simp (disch := (try simp only [sP]); omega) only [eV, k2]
 have g11 : G.eval (.tmp 11) = .int .i64 X.off := by rw [← hG]; simp (disch := (try simp only [sP]); omega) only [eV]
 have g13 : G.eval (.tmp 13) = .int .i32 X.size := by rw [← hG]; simp (disch := (try simp only [sP]); omega) only [eV]
 have g15 : G.eval (.tmp 15) = .int .i32 X.crc := by rw [← hG]; simp (disch := (try simp only [sP]); omega) only [eV]
 have g17 : G.eval (.tmp 17) = .int .i8 X.mag := by rw [← hG]; simp (disch := (try simp only [sP]); omega) only [eV]
 have g19 : G.eval (.tmp 19) = .int .i8 X.att := by rw [← hG]; simp (disch := (try simp only [sP]); omega) only [eV]
 have g22 : G.eval (.tmp 22) = .agg [.bool (opt X.kn X.k).isNone, xk].toArray := by rw [← hG]; simp (disch := (try simp only [sP]); omega) only [eV]
 have g25 : G.eval (.tmp 25) = .agg [.bool (opt X.vn X.v).isNone, xv].toArray := by rw [← hG]; simp (disch := (try simp only [sP]); omega) only [eV]
 clear hG
 have hgk : (X.got false).kn = (opt X.kn X.k).isNone := by simp only [OX.got, opt]; cases X.kn <;> rfl
 have hgv : (X.got false).vn = (opt X.vn X.v).isNone := by simp only [OX.got, opt]; cases X.vn <;> rfl
 refine d_sole rfl (wN rfl) ?_
 refine r_build (cells := ((X.got false).cells xk xv).toArray) H.lOld ?_ ?_
 ·simp [Instr.fill, g11, g13, g15, g17, g19, g22, g25, Value.cells, OX.cells, hgk, hgv]
  simp [OX.got]
 refine dn (d_then (mkS _ hW2) ?_)
 have hf2 : ∀ i, i < 10 → Free w2 w.heap.size (0 + i) := fun i hi => (hf i hi).eff (Eff.of_below (M := fun _ _ => False) hW2)
 have hone : ∀ v ∈ (X.got false).cells xk xv, v.oneCell' = true := by
  intro v hv
  simp only [OX.cells, List.mem_cons, List.not_mem_nil, or_false] at hv
  rcases hv with rfl | rfl | rfl | rfl | rfl | rfl | rfl | rfl | rfl | rfl <;> first | rfl | exact ho1.1 | exact ho1.2
 have hcb : Cells (setCells w2 w.heap.size 0 ((X.got false).cells xk xv)) w.heap.size 0 ((X.got false).cells xk xv) := fun i v hv => setCells_cell _ _ _ _ (fun j hj => (hf2 j (by simpa [OX.cells] using hj)).1) i v hv
 have hE := setCells_eff w.heap.size ((X.got false).cells xk xv) w2 0
 have hx3 : BytesIn P E (setCells w2 w.heap.size 0 ((X.got false).cells xk xv)) xk ((opt X.kn X.k).getD []) := RowB.bytesIn H.row ((hxk.below hb2).effB (B := w.heap.size + 1) (fun q oo n c h => by have h1 : W.heap.size ≤ q := hqk q oo n c h; omega) hE (by rintro k i hk ⟨h, _⟩; omega))
 have hv3 : BytesIn P E (setCells w2 w.heap.size 0 ((X.got false).cells xk xv)) xv ((opt X.vn X.v).getD []) := RowB.bytesIn H.row (hxv.effB (B := w.heap.size + 1) (fun q oo n c h => by have h1 : w1.heap.size ≤ q := hqv q oo n c h; omega) hE (by rintro k i hk ⟨h, _⟩; omega))
 have hq3 : Cells (setCells w2 w.heap.size 0 ((X.got false).cells xk xv)) q4 0 [.int .i64 X.off, .int .i32 X.size, .int .i32 X.crc, .int .i8 X.mag, .int .i8 X.att, x, y] := (mkS _ hW2).eff hE (by rintro i hi ⟨h, _⟩; omega)
 have hb3 : Below w.heap.size w (setCells w2 w.heap.size 0 ((X.got false).cells xk xv)) := (hb.trans (hW2.mono hb.size)).trans (hE.below (by have := hb.size; omega) (by rintro k i hk ⟨h, _⟩; omega))
 refine d_sole rfl (wN rfl) ?_
 refine r_storeAgg (b := w.heap.size) (o := 0) (cs := (X.got false).cells xk xv) (by simp (disch := (try simp only [sP]); omega) only [eV, g2]) (by simp (disch := (try simp only [sP]); omega) only [eV]) hone H.aOld (fun i hi => hf2 i (by simpa [OX.cells] using hi)) ?_
 refine dn (d_then hq3 ?_)
 refine dP rfl rfl rfl (wN rfl) (by simp only [zP, hsG]; omega) hq3 (fun w' hS' => rA (dn ⟨rfl, rfl, rfl⟩)) ?_
 refine d_nil ?_
 refine vS (vT ?_)
 exact ⟨by simp only [dF]; exact hdG, _, results_cell_tmp (b := w.heap.size) (o := 0) (cs := (X.got false).cells xk xv) (x := .bool true) (by simp (disch := (try simp only [sP]); omega) only [eV, g2]) H.aOld hcb (by simp (disch := (try simp only [sP]); omega) only [eV]), hb3, _, rfl, xk, xv, rfl, hx3, hv3⟩
set_option maxHeartbeats 4000000 in
theorem c_tellR1_ok (H : OT P E C) (hfo : ∀ i, i < 8 → fieldOff P C.tV1 i = some i) {A : Act} {W w : World} {q4 : Nat} {cs : List Value} {sb : Sb} {B : Nat} (hs : A.tmps.size = 29) (hd : A.defers = []) (k2 : A.eval (.tmp 2) = .pointer (some ⟨w.heap.size, 0, none⟩)) (k4 : A.eval (.tmp 4) = .pointer (some ⟨q4, 0, none⟩))
  (hb : Below w.heap.size w W) (hf : ∀ i, i < 10 → Free W w.heap.size (0 + i)) (hq : w.heap.size < q4) (hq2 : q4 < W.heap.size) (hc : Cells W q4 0 cs) {X : OX} (hrep : (fsV true).Rep W sb B cs (X.data true) []) (hk : X.k.length ≤ big) (hv : X.v.length ≤ big) :
  vc P (sq [c_tellR1 E C, .ret]) (Out P #[.cell 2 C.tOld, .tmp 3] fun r w' => Below w.heap.size w w' ∧ ∃ cs, r = .tuple #[.agg cs.toArray, .bool true] ∧ (X.got true).Rep P E w' cs) A W := by
 obtain ⟨x, y, hcs, hx, hy⟩ := old_cells H.row true hrep hk hv
 have hcs' : cs = [.int .i64 X.off, .int .i32 X.size, .int .i32 X.crc, .int .i8 X.mag, .int .i8 X.att, .int .i64 X.time, x, y] := by rw [hcs]; rfl
 subst hcs'
 have hbd : Below W.heap.size W { W with drawn := W.drawn + 1 } := below_drew W
 have mkS : ∀ w', Below W.heap.size W w' → Cells w' q4 0 [.int .i64 X.off, .int .i32 X.size, .int .i32 X.crc, .int .i8 X.mag, .int .i8 X.att, .int .i64 X.time, x, y] := fun w' h => hc.below h (by omega)
 have hS := mkS _ hbd
 have hx1 : x.oneCell' = true := by rcases hx with ⟨rfl, _⟩ | ⟨_, _, _, _, rfl, _⟩ <;> rfl
 have hy1 : y.oneCell' = true := by rcases hy with ⟨rfl, _⟩ | ⟨_, _, _, _, rfl, _⟩ <;> rfl
 unfold c_tellR1
 refine vS (vc_rgd [(0, true), (1, true), (2, true), (3, true), (4, true), (5, true), (6, true), (7, true), (8, true), (9, true), (10, true), (11, true), (12, true), (13, true), (15, true), (16, true), (14, false), (17, false), (18, false), (19, false), (20, true)] (fun W' => Cells W' q4 0 [.int .i64 X.off, .int .i32 X.size, .int .i32 X.crc, .int .i8 X.mag, .int .i8 X.att, .int .i64 X.time, x, y]) H.mixed (by kernel_rfl) rfl (by kernel_rfl) (fun _ _ _ _ h => False.elim h) ?_)
 refine dP rfl rfl rfl (wN rfl) (by simp only [zP, hs]; omega) hS (fun w' hS' => rF (b := q4) (o := 0) (by simp (disch := (try simp only [sP]); omega) only [eV, k4]) (hfo 0 (by omega)) (dn ⟨rfl, rfl, rfl⟩)) ?_
 refine dP rfl rfl rfl (wN rfl) (by simp only [zP, hs]; omega) hS (fun w' hS' => rL (b := q4) (o := 0 + 0) (v := .int .i64 X.off) (by simp (disch := (try simp only [sP]); omega) only [eV]) H.o64 (hS' 0 _ rfl) (dn ⟨rfl, rfl, rfl⟩)) ?_
 refine dP rfl rfl rfl (wN rfl) (by simp only [zP, hs]; omega) hS (fun w' hS' => rF (b := q4) (o := 0) (by simp (disch := (try simp only [sP]); omega) only [eV, k4]) (hfo 1 (by omega)) (dn ⟨rfl, rfl, rfl⟩)) ?_
 refine dP rfl rfl rfl (wN rfl) (by simp only [zP, hs]; omega) hS (fun w' hS' => rL (b := q4) (o := 0 + 1) (v := .int .i32 X.size) (by simp (disch := (try simp only [sP]); omega) only [eV]) H.o32 (hS' 1 _ rfl) (dn ⟨rfl, rfl, rfl⟩)) ?_
 refine dP rfl rfl rfl (wN rfl) (by simp only [zP, hs]; omega) hS (fun w' hS' => rF (b := q4) (o := 0) (by simp (disch := (try simp only [sP]); omega) only [eV, k4]) (hfo 2 (by omega)) (dn ⟨rfl, rfl, rfl⟩)) ?_
 refine dP rfl rfl rfl (wN rfl) (by simp only [zP, hs]; omega) hS (fun w' hS' => rL (b := q4) (o := 0 + 2) (v := .int .i32 X.crc) (by simp (disch := (try simp only [sP]); omega) only [eV]) H.o32 (hS' 2 _ rfl) (dn ⟨rfl, rfl, rfl⟩)) ?_
 refine dP rfl rfl rfl (wN rfl) (by simp only [zP, hs]; omega) hS (fun w' hS' => rF (b := q4) (o := 0) (by simp (disch := (try simp only [sP]); omega) only [eV, k4]) (hfo 3 (by omega)) (dn ⟨rfl, rfl, rfl⟩)) ?_
 refine dP rfl rfl rfl (wN rfl) (by simp only [zP, hs]; omega) hS (fun w' hS' => rL (b := q4) (o := 0 + 3) (v := .int .i8 X.mag) (by simp (disch := (try simp only [sP]); omega) only [eV]) H.o8 (hS' 3 _ rfl) (dn ⟨rfl, rfl, rfl⟩)) ?_
 refine dP rfl rfl rfl (wN rfl) (by simp only [zP, hs]; omega) hS (fun w' hS' => rF (b := q4) (o := 0) (by simp (disch := (try simp only [sP]); omega) only [eV, k4]) (hfo 4 (by omega)) (dn ⟨rfl, rfl, rfl⟩)) ?_
 refine dP rfl rfl rfl (wN rfl) (by simp only [zP, hs]; omega) hS (fun w' hS' => rL (b := q4) (o := 0 + 4) (v := .int .i8 X.att) (by simp (disch := (try simp only [sP]); omega) only [eV]) H.o8 (hS' 4 _ rfl) (dn ⟨rfl, rfl, rfl⟩)) ?_
 refine dP rfl rfl rfl (wN rfl) (by simp only [zP, hs]; omega) hS (fun w' hS' => rF (b := q4) (o := 0) (by simp (disch := (try simp only [sP]); omega) only [eV, k4]) (hfo 5 (by omega)) (dn ⟨rfl, rfl, rfl⟩)) ?_
 refine dP rfl rfl rfl (wN rfl) (by simp only [zP, hs]; omega) hS (fun w' hS' => rL (b := q4) (o := 0 + 5) (v := .int .i64 X.time) (by simp (disch := (try simp only [sP]); omega) only [eV]) H.o64 (hS' 5 _ rfl) (dn ⟨rfl, rfl, rfl⟩)) ?_
 refine dP rfl rfl rfl (wN rfl) (by simp only [zP, hs]; omega) hS (fun w' hS' => rF (b := q4) (o := 0) (by simp (disch := (try simp only [sP]); omega) only [eV, k4]) (hfo 6 (by omega)) (dn ⟨rfl, rfl, rfl⟩)) ?_
 refine dP rfl rfl rfl (wN rfl) (by simp only [zP, hs]; omega) hS (fun w' hS' => rL (b := q4) (o := 0 + 6) (v := x) (by simp (disch := (try simp only [sP]); omega) only [eV]) H.oB (hS' 6 _ rfl) (dn ⟨rfl, rfl, rfl⟩)) ?_
 refine dP rfl rfl rfl (wN rfl) (by simp only [zP, hs]; omega) hS (fun w' hS' => rF (b := q4) (o := 0) (by simp (disch := (try simp only [sP]); omega) only [eV, k4]) (hfo 7 (by omega)) (dn ⟨rfl, rfl, rfl⟩)) ?_
 refine dP rfl rfl rfl (wN rfl) (by simp only [zP, hs]; omega) hS (fun w' hS' => rL (b := q4) (o := 0 + 7) (v := y) (by simp (disch := (try simp only [sP]); omega) only [eV]) H.oB (hS' 7 _ rfl) (dn ⟨rfl, rfl, rfl⟩)) ?_
 refine d_sole rfl (wN rfl) ?_
 refine r_call' (args := #[x]) ?_ (c_octets_ok H (hx.below hbd)) ?_
 ·simp only [lM]
  simp (disch := (try simp only [sP]); omega) only [eV]
 rintro v1 w1 ⟨xk, rfl, hxk, hqk, hb1⟩
 have hW1 : Below W.heap.size W w1 := hbd.trans (hb1.mono (Nat.le_refl _))
 refine dn (d_then (mkS _ hW1) ?_)
 refine d_sole rfl (wN rfl) ?_
 refine r_call' (args := #[y]) ?_ (c_octets_ok H (hy.below hW1)) ?_
 ·simp only [lM]
  simp (disch := (try simp only [sP]); omega) only [eV]
 rintro v2 w2 ⟨xv, rfl, hxv, hqv, hb2⟩
 have hz1 := hW1.size
 have hW2 : Below W.heap.size W w2 := hW1.trans (hb2.mono hz1)
 have hz2 := hW2.size
 refine dn (d_then (mkS _ hW2) ?_)
 have ho1 : xk.oneCell' = true ∧ xv.oneCell' = true := by
  obtain ⟨_, _, rfl⟩ := hxk.form
  obtain ⟨_, _, rfl⟩ := hxv.form
  exact ⟨rfl, rfl⟩
 generalize hG : Act.put _ (some 27) _ = G
 have hsG : G.tmps.size = 29 := by rw [← hG]; simp only [zP]; exact hs
 have hdG : G.defers = [] := by rw [← hG]; simp only [dF]; exact hd
 have g2 : G.eval (.tmp 2) = .pointer (some ⟨w.heap.size, 0, none⟩) := by rw [← hG]; simp (disch := (try simp only [sP]); omega) only [eV, k2]
 have g11 : G.eval (.tmp 11) = .int .i64 X.off := by rw [← hG]; simp (disch := (try simp only [sP]); omega) only [eV]
 have g13 : G.eval (.tmp 13) = .int .i32 X.size := by rw [← hG]; simp (disch := (try simp only [sP]); omega) only [eV]
 have g15 : G.eval (.tmp 15) = .int .i32 X.crc := by rw [← hG]; simp (disch := (try simp only [sP]); omega) only [eV]
 have g17 : G.eval (.tmp 17) = .int .i8 X.mag := by rw [← hG]; simp (disch := (try simp only [sP]); omega) only [eV]
 have g19 : G.eval (.tmp 19) = .int .i8 X.att := by rw [← hG]; simp (disch := (try simp only [sP]); omega) only [eV]
 have g21 : G.eval (.tmp 21) = .int .i64 X.time := by rw [← hG]; simp (disch := (try simp only [sP]); omega) only [eV]
 have g24 : G.eval (.tmp 24) = .agg [.bool (opt X.kn X.k).isNone, xk].toArray := by rw [← hG]; simp (disch := (try simp only [sP]); omega) only [eV]
 have g27 : G.eval (.tmp 27) = .agg [.bool (opt X.vn X.v).isNone, xv].toArray := by rw [← hG]; simp (disch := (try simp only [sP]); omega) only [eV]
 clear hG
 have hgk : (X.got true).kn = (opt X.kn X.k).isNone := by simp only [OX.got, opt]; cases X.kn <;> rfl
 have hgv : (X.got true).vn = (opt X.vn X.v).isNone := by simp only [OX.got, opt]; cases X.vn <;> rfl
 refine d_sole rfl (wN rfl) ?_
 refine r_build (cells := ((X.got true).cells xk xv).toArray) H.lOld ?_ ?_
 ·simp [Instr.fill, g11, g13, g15, g17, g19, g21, g24, g27, Value.cells, OX.cells, hgk, hgv]
  simp [OX.got]
 refine dn (d_then (mkS _ hW2) ?_)
 have hf2 : ∀ i, i < 10 → Free w2 w.heap.size (0 + i) := fun i hi => (hf i hi).eff (Eff.of_below (M := fun _ _ => False) hW2)
 have hone : ∀ v ∈ (X.got true).cells xk xv, v.oneCell' = true := by
  intro v hv
  simp only [OX.cells, List.mem_cons, List.not_mem_nil, or_false] at hv
  rcases hv with rfl | rfl | rfl | rfl | rfl | rfl | rfl | rfl | rfl | rfl <;> first | rfl | exact ho1.1 | exact ho1.2
 have hcb : Cells (setCells w2 w.heap.size 0 ((X.got true).cells xk xv)) w.heap.size 0 ((X.got true).cells xk xv) := fun i v hv => setCells_cell _ _ _ _ (fun j hj => (hf2 j (by simpa [OX.cells] using hj)).1) i v hv
 have hE := setCells_eff w.heap.size ((X.got true).cells xk xv) w2 0
 have hx3 : BytesIn P E (setCells w2 w.heap.size 0 ((X.got true).cells xk xv)) xk ((opt X.kn X.k).getD []) := RowB.bytesIn H.row ((hxk.below hb2).effB (B := w.heap.size + 1) (fun q oo n c h => by have h1 : W.heap.size ≤ q := hqk q oo n c h; omega) hE (by rintro k i hk ⟨h, _⟩; omega))
 have hv3 : BytesIn P E (setCells w2 w.heap.size 0 ((X.got true).cells xk xv)) xv ((opt X.vn X.v).getD []) := RowB.bytesIn H.row (hxv.effB (B := w.heap.size + 1) (fun q oo n c h => by have h1 : w1.heap.size ≤ q := hqv q oo n c h; omega) hE (by rintro k i hk ⟨h, _⟩; omega))
 have hq3 : Cells (setCells w2 w.heap.size 0 ((X.got true).cells xk xv)) q4 0 [.int .i64 X.off, .int .i32 X.size, .int .i32 X.crc, .int .i8 X.mag, .int .i8 X.att, .int .i64 X.time, x, y] := (mkS _ hW2).eff hE (by rintro i hi ⟨h, _⟩; omega)
 have hb3 : Below w.heap.size w (setCells w2 w.heap.size 0 ((X.got true).cells xk xv)) := (hb.trans (hW2.mono hb.size)).trans (hE.below (by have := hb.size; omega) (by rintro k i hk ⟨h, _⟩; omega))
 refine d_sole rfl (wN rfl) ?_
 refine r_storeAgg (b := w.heap.size) (o := 0) (cs := (X.got true).cells xk xv) (by simp (disch := (try simp only [sP]); omega) only [eV, g2]) (by simp (disch := (try simp only [sP]); omega) only [eV]) hone H.aOld (fun i hi => hf2 i (by simpa [OX.cells] using hi)) ?_
 refine dn (d_then hq3 ?_)
 refine dP rfl rfl rfl (wN rfl) (by simp only [zP, hsG]; omega) hq3 (fun w' hS' => rA (dn ⟨rfl, rfl, rfl⟩)) ?_
 refine d_nil ?_
 refine vS (vT ?_)
 exact ⟨by simp only [dF]; exact hdG, _, results_cell_tmp (b := w.heap.size) (o := 0) (cs := (X.got true).cells xk xv) (x := .bool true) (by simp (disch := (try simp only [sP]); omega) only [eV, g2]) H.aOld hcb (by simp (disch := (try simp only [sP]); omega) only [eV]), hb3, _, rfl, xk, xv, rfl, hx3, hv3⟩
end
end Go.Km
namespace Go.Km
open Go Go.RowKit
attribute [local irreducible] vc rO_ runG runS runD
section
variable {P : Program} {a : Act} {w : World} {r : List Oper} {Q : Exit → Act → World → Prop}
theorem r_callO {d f ts ty p af g args} {x : Nat} {xs : Array Operand} {S : Value → World → Prop} (hf : a.eval (.tmp x) = .func (.func f) #[] #[]) (hx : xs.map a.eval = args) (h : CallsV P f args w S) (hn : ∀ v w', S v w' → rO_ P Q r (a.put d v) w') :
  rO_ P Q (⟨d, .call { callee := .value (.tmp x), args := xs, argTypes := ts }, ty, p, af, g⟩ :: r) a w := by
 subst hx
 refine st ?_
 obtain ⟨he, hc⟩ := h
 have := he (#[] ++ xs.map a.eval ++ #[]) w
 simp only [Array.empty_append, Array.append_empty] at this
 have h2 : (callFunc f (xs.map a.eval)).run P w = .ok (.enter f (xs.map a.eval)) w := this
 have h3 : (callFunc f (xs.map (Act.eval a))).run P w = .ok (.enter f (xs.map a.eval)) w := this
 simp only [Oper.wp, execOp, resolve, hf, Deferred.ofValue, Sem.run_bind, Sem.run_pure, Result.andThen_ok, invoke, Array.empty_append, Array.append_empty]
 simp only [Oper.upon, h3]
 refine hc.mono ?_
 rintro e w' ⟨v, rfl, hs⟩
 exact hn v w' hs
end
section
variable {P : Program} {E : Env} {C : OC}
theorem OX.Rep.below {w w' : World} {X : OX} {cs : List Value} (h : X.Rep P E w cs) (hb : Below w.heap.size w w') : X.Rep P E w' cs := by
 obtain ⟨kv, vv, h1, h2, h3⟩ := h
 exact ⟨kv, vv, h1, h2.below hb, h3.below hb⟩
theorem OX.Rep.len {w : World} {X : OX} {cs : List Value} (h : X.Rep P E w cs) : cs.length = 10 := by
 obtain ⟨kv, vv, rfl, _⟩ := h
 rfl
theorem OX.Rep.one {w : World} {X : OX} {cs : List Value} (h : X.Rep P E w cs) : ∀ v ∈ cs, v.oneCell' = true := by
 obtain ⟨kv, vv, rfl, h1, h2⟩ := h
 obtain ⟨_, _, rfl⟩ := h1.1
 obtain ⟨_, _, rfl⟩ := h2.1
 intro v hv
 simp only [OX.cells, List.mem_cons, List.not_mem_nil, or_false] at hv
 rcases hv with rfl | rfl | rfl | rfl | rfl | rfl | rfl | rfl | rfl | rfl <;> rfl
theorem wr_len (one : Bool) (X : OX) (h : X.k.length + X.v.length ≤ 131072) : 1 ≤ (X.wr one).length ∧ (X.wr one).length ≤ 200000 := by
 have h1 : (octW X.kn X.k).length ≤ 4 + X.k.length := by unfold octW; cases X.kn <;> simp [wrNBytes, wrBytes, be_len]
 have h2 : (octW X.vn X.v).length ≤ 4 + X.v.length := by unfold octW; cases X.vn <;> simp [wrNBytes, wrBytes, be_len]
 cases one <;> simp only [OX.wr, List.length_append, be_len, if_true, Bool.false_eq_true, if_false, List.length_nil] <;> omega
def OX.at (one : Bool) (X : OX) : OX := { X with time := if one then X.time else 0 }
theorem at_ok {one : Bool} {X : OX} (h : X.ok) : (X.at one).ok := by
 obtain ⟨h0, h1, h2, h3, h4, h5⟩ := h
 refine ⟨h0, h1, h2, h3, h4, ?_⟩
 cases one
 ·simp only [OX.at, Bool.false_eq_true, if_false, Scal.ok]; omega
 ·exact h5
theorem got_wr (one : Bool) (X : OX) : ((X.at one).got one).wr true = (X.at one).wr true := by
 simp only [OX.wr, OX.got, octW_got, if_true, OX.at]
 cases one <;> rfl
theorem got_ok {one : Bool} {X : OX} (h : X.ok) : (X.got one).ok := by
 obtain ⟨h0, h1, h2, h3, h4, h5⟩ := h
 refine ⟨h0, h1, h2, h3, h4, ?_⟩
 cases one
 ·simp only [OX.got, Bool.false_eq_true, if_false, Scal.ok]; omega
 ·exact h5
theorem got_len (one : Bool) (X : OX) : (X.got one).k.length + (X.got one).v.length ≤ X.k.length + X.v.length := by
 simp only [OX.got, opt]
 cases X.kn <;> cases X.vn <;> simp
set_option maxHeartbeats 4000000 in
theorem c_tellOld_ok (H : OT P E C) (hT : ∀ (one : Bool) (l : List UInt8) (X : OX) (sv ev : Value) (w : World), (((fsV one).rd false 0 (l, false)).2.2.2 = false → ((fsV one).rd false 0 (l, false)).1 = X.data one ∧ X.k.length ≤ big ∧ X.v.length ≤ big) → BytesIn P E w sv l → l.length ≤ big → w.cell? ⟨E.vErr, 0, none⟩ = some ev → (∃ u z, ev = .iface u z) → CallsV P (if one then C.tv1 else C.tv0) #[sv] w fun r w' => TellV P E one l X w r w')
  {f : FuncId} {np nt : Nat} (ht : Text P f np nt #[.tmp 6] (c_tellOld E C)) (hn : 53 ≤ nt) {X : OX} {cs : List Value} {one : Bool} {k : Nat} {ev : Value} {w : World} (hk : k < 65536) (hX : X.Rep P E w cs) (hok : X.ok) (he : w.cell? ⟨E.vErr, 0, none⟩ = some ev) (hev : ∃ u z, ev = .iface u z) :
  CallsV P f #[.agg cs.toArray, .bool one, .int .u16 k] w fun v w' => v = .bool true ∧ Below w.heap.size w w' := by
 have hevlt := lt_of_cell he
 have hcl := hX.len
 have hc1 := hX.one
 refine CallsV.enter ht (by simp; omega) ?_
 intro a hsz hdf harg
 have e0 := harg 0 (.agg cs.toArray) (by simp)
 have e1 := harg 1 (.bool one) (by simp)
 have e2 := harg 2 (.int .u16 k) (by simp)
 unfold c_tellOld
 refine vX ?_
 refine r_box (v := .agg cs.toArray) (by simp (disch := (try simp only [sP]); omega) only [eV, e0]) ?_
 refine rA (dn ?_)
 obtain ⟨hb1, hc, hz1⟩ := boxed (w := w) (cs := cs) (T := C.tOld)
 have hfr1 : ∀ i, i < 10 → Free (w.alloc (.cells (Value.agg cs.toArray).cells C.tOld)) w.heap.size i := fun i hi => free_new w _ _ (by simp [Value.cells]; omega)
 generalize w.alloc (.cells (Value.agg cs.toArray).cells C.tOld) = w1 at *
 generalize hG : Act.put _ (some 6) _ = G
 have hsG : G.tmps.size = nt := by rw [← hG]; simp only [zP]; exact hsz
 have hdG : G.defers = [] := by rw [← hG]; simp only [dF]; exact hdf
 have k1 : G.eval (.tmp 1) = .bool one := by rw [← hG]; simp (disch := (try simp only [sP]); omega) only [eV, e1]
 have k2 : G.eval (.tmp 2) = .int .u16 k := by rw [← hG]; simp (disch := (try simp only [sP]); omega) only [eV, e2]
 have k3 : G.eval (.tmp 3) = .pointer (some ⟨w.heap.size, 0, none⟩) := by rw [← hG]; simp (disch := (try simp only [sP]); omega) only [eV]
 clear hG
 refine vS (vX ?_)
 refine r_loadAgg (b := w.heap.size) (o := 0) (cs := cs) (by simp (disch := (try simp only [sP]); omega) only [eV, k3]) (by rw [hcl]; exact H.aOld) hc ?_
 refine r_call' (args := #[.agg cs.toArray]) ?_ (c_f13_ok H (hX.below hb1)) ?_
 ·simp only [lM]
  simp (disch := (try simp only [sP]); omega) only [eV]
 rintro v2 w2 ⟨rfl, hb2⟩
 have hw2 : Below w.heap.size w w2 := hb1.trans (hb2.mono hb1.size)
 refine r_not (b := decide (X.k.length ≤ 2147483647) && decide (X.v.length ≤ 2147483647)) (by simp (disch := (try simp only [sP]); omega) only [eV]) ?_
 refine dn ?_
 refine vS (vC (t := !(decide (X.k.length ≤ 2147483647) && decide (X.v.length ≤ 2147483647))) (by simp (disch := (try simp only [sP]); omega) only [eV]) ?_ ?_)
 ·intro h
  refine vX (rA (dn (vS (vT ?_))))
  exact ⟨by simp only [dF]; exact hdG, .bool true, rO (by simp (disch := (try simp only [sP]); omega) only [eV]), rfl, hw2⟩
 intro h13
 have hkv : X.k.length ≤ 2147483647 ∧ X.v.length ≤ 2147483647 := by simpa using h13
 refine vK (vN ?_)
 have hc2 : Cells w2 w.heap.size 0 cs := hc.below hb2 (by omega)
 refine vS (vX ?_)
 refine r_loadAgg (b := w.heap.size) (o := 0) (cs := cs) (by simp (disch := (try simp only [sP]); omega) only [eV, k3]) (by rw [hcl]; exact H.aOld) hc2 ?_
 refine r_call' (args := #[.agg cs.toArray]) ?_ (c_fits_ok H (hX.below hw2) hkv.1 hkv.2) ?_
 ·simp only [lM]
  simp (disch := (try simp only [sP]); omega) only [eV]
 rintro v3 w3 ⟨rfl, hb3⟩
 have hw3 : Below w.heap.size w w3 := hw2.trans (hb3.mono hw2.size)
 refine r_not (b := decide (X.k.length + X.v.length ≤ 131072)) (by simp (disch := (try simp only [sP]); omega) only [eV]) ?_
 refine dn ?_
 refine vS (vC (t := !decide (X.k.length + X.v.length ≤ 131072)) (by simp (disch := (try simp only [sP]); omega) only [eV]) ?_ ?_)
 ·intro h
  refine vX (rA (dn (vS (vT ?_))))
  exact ⟨by simp only [dF]; exact hdG, .bool true, rO (by simp (disch := (try simp only [sP]); omega) only [eV]), rfl, hw3⟩
 intro hft
 have hlen : X.k.length + X.v.length ≤ 131072 := by simpa using hft
 refine vK (vN (vX (rA (rA (dn ?_)))))
 have hb13 : Below w1.heap.size w1 w3 := hb2.trans (hb3.mono hb2.size)
 have hc3 : Cells w3 w.heap.size 0 cs := hc.below hb13 (by omega)
 have hfr3 : ∀ i, i < 10 → Free w3 w.heap.size i := fun i hi => (hfr1 i hi).eff (Eff.of_below (M := fun _ _ => False) hb13)
 generalize hA : Act.put _ (some 8) _ = A
 have hsA : A.tmps.size = nt := by rw [← hA]; simp only [zP]; exact hsG
 have hdA : A.defers = [] := by rw [← hA]; simp only [dF]; exact hdG
 have k1 : A.eval (.tmp 1) = .bool one := by rw [← hA]; simp (disch := (try simp only [sP]); omega) only [eV, k1]
 have k2 : A.eval (.tmp 2) = .int .u16 k := by rw [← hA]; simp (disch := (try simp only [sP]); omega) only [eV, k2]
 have k3 : A.eval (.tmp 3) = .pointer (some ⟨w.heap.size, 0, none⟩) := by rw [← hA]; simp (disch := (try simp only [sP]); omega) only [eV, k3]
 have k7 : A.eval (.tmp 7) = .int .i64 0 := by rw [← hA]; simp (disch := (try simp only [sP]); omega) only [eV]
 have k8 : A.eval (.tmp 8) = .func (.func C.tv0) #[] #[] := by rw [← hA]; simp (disch := (try simp only [sP]); omega) only [eV, eval_func]
 clear hA
 -- behind the choice of the version
 have fin : ∀ (B : Act) (w4 : World) (ds : List Value), B.tmps.size = nt → B.defers = [] → B.eval (.tmp 2) = .int .u16 k → B.eval (.tmp 3) = .pointer (some ⟨w.heap.size, 0, none⟩) → B.eval (.tmp 7) = .int .i64 (if one then 1 else 0) → B.eval (.tmp 8) = .func (.func (if one then C.tv1 else C.tv0)) #[] #[] →
   Below w.heap.size w w4 → Cells w4 w.heap.size 0 ds → (X.at one).Rep P E w4 ds → w.heap.size < w4.heap.size →
   vc P (sq [rg [(oQ 22 (.move (.tmp 7)) E.tI),
   (oQ 23 (.load C.tOld (.tmp 3)) C.tOld),
   (oQ 24 (.call { callee := .value (.func C.oldB), args := #[(.tmp 22), (.tmp 23)], argTypes := #[E.tI, C.tOld] }) E.tB),
   (oQ 9 (.assign (.tmp 24)) E.tB)],
  (rg [(oQ 26 (.move (.tmp 8)) C.tFn),
   (oQ 27 (.move (.tmp 9)) E.tB),
   (oQ 28 (.call { callee := .value (.tmp 26), args := #[(.tmp 27)], argTypes := #[E.tB] }) C.tTup),
   (oQ 25 (.move (.tmp 28)) C.tTup),
   (oQ 29 (.extract (.tmp 25) 0) C.tOld),
   (oQ 30 (.extract (.tmp 25) 1) E.tO),
   (oQ 10 (.alloc C.tOld) 0),
   ⟨none, .store C.tOld (.tmp 10) (.tmp 29), 0, "", #[], none⟩,
   (oQ 11 (.assign (.tmp 30)) E.tO)]),
  (rg [(oQ 32 (.move (.tmp 8)) C.tFn),
   (oQ 33 (.move (.tmp 9)) E.tB),
   (oQ 34 (.move (.tmp 2)) E.tU16),
   (oQ 35 (.convert E.tU16 E.tI (.tmp 34)) E.tI),
   (oQ 36 (.move (.tmp 9)) E.tB),
   (oQ 37 (.call { callee := .builtin .len, args := #[(.tmp 36)], argTypes := #[E.tB] }) E.tI),
   (oQ 38 (.binOp .rem E.tI (.tmp 35) (.tmp 37) E.tI) E.tI),
   (oQ 39 (.slice E.tB (.tmp 33) none (some (.tmp 38)) none) E.tB),
   (oQ 40 (.call { callee := .value (.tmp 32), args := #[(.tmp 39)], argTypes := #[E.tB] }) C.tTup),
   (oQ 31 (.move (.tmp 40)) C.tTup),
   (oQ 41 (.extract (.tmp 31) 0) C.tOld),
   (oQ 42 (.extract (.tmp 31) 1) E.tO),
   (oQ 12 (.alloc C.tOld) 0),
   ⟨none, .store C.tOld (.tmp 12) (.tmp 41), 0, "", #[], none⟩,
   (oQ 13 (.assign (.tmp 42)) E.tO)]),
  (rg [(oQ 43 (.move (.tmp 11)) E.tO),
   (oQ 44 (.move (.tmp 43)) E.tO),
   ⟨some 45, .move (.tmp 13), E.tO, "", #[], some (1, true)⟩,
   ⟨some 46, .unOp .not E.tO (.tmp 45), E.tO, "", #[], some (1, true)⟩,
   (oQ 47 (.pick (.tmp 44) (.tmp 46) (.const (.bool false))) E.tO),
   (oQ 48 (.move (.tmp 47)) E.tO),
   ⟨some 49, .load C.tOld (.tmp 10), C.tOld, "", #[], some (5, true)⟩,
   ⟨some 50, .load C.tOld (.tmp 3), C.tOld, "", #[], some (5, true)⟩,
   ⟨some 51, .call { callee := .value (.func C.sold), args := #[(.tmp 49), (.tmp 50)], argTypes := #[C.tOld, C.tOld] }, E.tO, "", #[], some (5, true)⟩,
   (oQ 52 (.pick (.tmp 48) (.tmp 51) (.const (.bool false))) E.tO),
   (oQ 6 (.assign (.tmp 52)) E.tO)]),
  .ret]) (Out P #[.tmp 6] fun v w' => v = .bool true ∧ Below w.heap.size w w') B w4 := by
  intro B w4 ds hsB hdB g2 g3 g7 g8 hw4 hc4 hY hz4
  have hYo : (X.at one).ok := at_ok hok
  have hYl : (X.at one).k.length + (X.at one).v.length ≤ 131072 := hlen
  have hgw := got_wr one X
  generalize X.at one = Y at *
  have hdl := hY.len
  obtain ⟨hwl1, hwl2⟩ := wr_len one Y hYl
  have hpl := old_rd one hYo (by omega)
  refine vX (rM ?_)
  refine r_loadAgg (b := w.heap.size) (o := 0) (cs := ds) (by simp (disch := (try simp only [sP]); omega) only [eV, g3]) (by rw [hdl]; exact H.aOld) hc4 ?_
  refine r_call' (args := #[.int .i64 (if one then 1 else 0), .agg ds.toArray]) ?_ (c_oldB_ok H (one := one) (U := w4.heap.size) (Nat.le_refl _) hYo hY (by omega)) ?_
  ·simp only [lM]
   simp (disch := (try simp only [sP]); omega) only [eV, g7]
  rintro v5 w5 ⟨hown5, hb5⟩
  refine rA (dn ?_)
  have hw5 : Below w.heap.size w w5 := hw4.trans (hb5.mono (by omega))
  have hev5 : w5.cell? ⟨E.vErr, 0, none⟩ = some ev := by rw [hw5.cell (p := ⟨E.vErr, 0, none⟩) hevlt]; exact he
  have hr5 : RowB w5 v5 (Y.wr one) := RowB.of_own hown5
  have hc5 : Cells w5 w.heap.size 0 ds := hc4.below hb5 hz4
  have hz5 := hb5.size
  refine vX (rM (rM ?_))
  refine r_callO (f := if one then C.tv1 else C.tv0) (args := #[v5]) (by simp (disch := (try simp only [sP]); omega) only [eV, g8]) ?_ (hT one (Y.wr one) Y v5 ev w5 (fun _ => ⟨by rw [hpl], by unfold big; omega, by unfold big; omega⟩) (hr5.bytesIn H.row) (by unfold big; omega) hev5 hev) ?_
  ·simp only [lM]
   simp (disch := (try simp only [sP]); omega) only [eV]
  rintro r6 w6 ⟨hb6, hr6⟩
  rw [hpl] at hr6
  rw [if_neg (by simp)] at hr6
  obtain ⟨gs, rfl, hg⟩ := hr6
  have hgl := hg.len
  have hg1 := hg.one
  refine rM ?_
  refine r_extract (vs := #[.agg gs.toArray, .bool true]) (v := .agg gs.toArray) (by simp (disch := (try simp only [sP]); omega) only [eV]) rfl ?_
  refine r_extract (vs := #[.agg gs.toArray, .bool true]) (v := .bool true) (by simp (disch := (try simp only [sP]); omega) only [eV]) rfl ?_
  obtain ⟨z, hz, hzc⟩ := lays_zero H.lOld
  refine r_alloc hz ?_
  have hfr6 : ∀ i, i < 10 → Free (w6.alloc (.cells z.cells C.tOld)) w6.heap.size (0 + i) := fun i hi => by rw [Nat.zero_add]; exact free_new w6 _ _ (by rw [hzc]; simpa using hi)
  have hb7 : Below w6.heap.size w6 (w6.alloc (.cells z.cells C.tOld)) := (Below.refl _ w6).alloc (o := .cells _ _) (Nat.le_refl _)
  have hz7 : (w6.alloc (.cells z.cells C.tOld)).heap.size = w6.heap.size + 1 := by simp
  generalize w6.alloc (.cells z.cells C.tOld) = w7 at *
  refine r_storeAgg (b := w6.heap.size) (o := 0) (cs := gs) (by simp (disch := (try simp only [sP]); omega) only [eV]) (by simp (disch := (try simp only [sP]); omega) only [eV]) hg1 (by rw [hgl]; exact H.aOld) (fun i hi => hfr6 i (by omega)) ?_
  have hcg : Cells (setCells w7 w6.heap.size 0 gs) w6.heap.size 0 gs := fun i v hv => setCells_cell _ _ _ _ (fun j hj => (hfr6 j (by omega)).1) i v hv
  have hb8 : Below w6.heap.size w6 (setCells w7 w6.heap.size 0 gs) := hb7.trans ((setCells_eff w6.heap.size gs w7 0).below (by omega) (by rintro i j hi ⟨h, _⟩; omega))
  have hz8 : w6.heap.size < (setCells w7 w6.heap.size 0 gs).heap.size := Nat.lt_of_lt_of_le (by omega) (setCells_eff w6.heap.size gs w7 0).size
  generalize setCells w7 w6.heap.size 0 gs = w8 at *
  refine rA (dn ?_)
  have hz6 := hb6.size
  have hb58 : Below w5.heap.size w5 w8 := hb6.trans (hb8.mono hz6)
  have hw8 : Below w.heap.size w w8 := hw5.trans (hb58.mono (by omega))
  have hg8 : (Y.got one).Rep P E w8 gs := hg.below hb8
  have hev8 : w8.cell? ⟨E.vErr, 0, none⟩ = some ev := by rw [hw8.cell (p := ⟨E.vErr, 0, none⟩) hevlt]; exact he
  have hr8 : RowB w8 v5 (Y.wr one) := hr5.below hb58
  have hc8 : Cells w8 w.heap.size 0 ds := hc5.below hb58 (by omega)
  generalize hm6 : w6.heap.size = m6 at *
  generalize hB2 : Act.put _ (some 11) _ = B2
  have hsB2 : B2.tmps.size = nt := by rw [← hB2]; simp only [zP]; exact hsB
  have hdB2 : B2.defers = [] := by rw [← hB2]; simp only [dF]; exact hdB
  have g2 : B2.eval (.tmp 2) = .int .u16 k := by rw [← hB2]; simp (disch := (try simp only [sP]); omega) only [eV, g2]
  have g3 : B2.eval (.tmp 3) = .pointer (some ⟨w.heap.size, 0, none⟩) := by rw [← hB2]; simp (disch := (try simp only [sP]); omega) only [eV, g3]
  have g8 : B2.eval (.tmp 8) = .func (.func (if one then C.tv1 else C.tv0)) #[] #[] := by rw [← hB2]; simp (disch := (try simp only [sP]); omega) only [eV, g8]
  have g9 : B2.eval (.tmp 9) = v5 := by rw [← hB2]; simp (disch := (try simp only [sP]); omega) only [eV]
  have g10 : B2.eval (.tmp 10) = .pointer (some ⟨m6, 0, none⟩) := by rw [← hB2, ← hm6]; simp (disch := (try simp only [sP]); omega) only [eV]
  have g11 : B2.eval (.tmp 11) = .bool true := by rw [← hB2]; simp (disch := (try simp only [sP]); omega) only [eV]
  clear hB2
  -- the cut
  have hcut : k % (Y.wr one).length < (Y.wr one).length := Nat.mod_lt _ (by omega)
  obtain ⟨ad, cap, hv5⟩ := hr8.form
  have hcapl : k % (Y.wr one).length ≤ cap := by
   rcases hown5.2 with ⟨_, h0⟩ | ⟨g, cap', cur, h1, _, _, h2, _⟩
   ·omega
   ·rw [h1] at hv5
    cases hv5
    omega
  have hrc : RowB w8 (.slice ad (k % (Y.wr one).length) cap) ((Y.wr one).take (k % (Y.wr one).length)) := by
   rcases hr8 with ⟨h1, h2⟩ | ⟨q, o, cap', h1, h2⟩
   ·rw [h2] at hwl1
    simp at hwl1
   ·rw [h1] at hv5
    cases hv5
    refine .inr ⟨q, o, cap, by rw [List.length_take, Nat.min_eq_left (Nat.le_of_lt hcut)], fun i u hu => ?_⟩
    rw [List.map_take, List.getElem?_take] at hu
    split at hu
    ·exact h2 i u hu
    ·cases hu
  subst hv5
  refine vX (rM (rM (rM ?_)))
  refine r_conv (k := .u16) (k' := .i64) (m := (k : Int)) H.u16 H.int (by simp (disch := (try simp only [sP]); omega) only [eV, g2]) ?_
  rw [wrap_i64 (by omega) (by omega)]
  refine rM ?_
  refine r_len (ad := ad) (n := (Y.wr one).length) (c := cap) (rB H.row) (by simp (disch := (try simp only [sP]); omega) only [eV, g9]) ?_
  refine r_rem (k := .i64) (m := (k : Int)) (n := ((Y.wr one).length : Int)) (by simp (disch := (try simp only [sP]); omega) only [eV]) (by simp (disch := (try simp only [sP]); omega) only [eV]) (by omega) ?_
  rw [show Int.tmod (k : Int) ((Y.wr one).length : Int) = ((k % (Y.wr one).length : Nat) : Int) by rw [Int.tmod_eq_emod_of_nonneg (by omega)]; rfl]
  refine r_sliceTo (ad := ad) (len := (Y.wr one).length) (cap := cap) (k := .i64) (h := k % (Y.wr one).length) (rB H.row) (by simp (disch := (try simp only [sP]); omega) only [eV, g9]) (by simp (disch := (try simp only [sP]); omega) only [eV]) hcapl ?_
  refine r_callO (f := if one then C.tv1 else C.tv0) (args := #[.slice ad (k % (Y.wr one).length) cap]) (by simp (disch := (try simp only [sP]); omega) only [eV, g8]) ?_ (hT one ((Y.wr one).take (k % (Y.wr one).length)) Y _ ev w8 (fun h => by rw [old_cut one hYo (by omega) hcut] at h; cases h) (hrc.bytesIn H.row) (by rw [List.length_take]; unfold big; omega) hev8 hev) ?_
  ·simp only [lM]
   simp (disch := (try simp only [sP]); omega) only [eV]
  rintro r9 w9 ⟨hb9, hr9⟩
  rw [old_cut one hYo (by omega) hcut, if_pos rfl] at hr9
  obtain ⟨zs, rfl, hzl, hz1⟩ := hr9
  refine rM ?_
  refine r_extract (vs := #[.agg zs.toArray, .bool false]) (v := .agg zs.toArray) (by simp (disch := (try simp only [sP]); omega) only [eV]) rfl ?_
  refine r_extract (vs := #[.agg zs.toArray, .bool false]) (v := .bool false) (by simp (disch := (try simp only [sP]); omega) only [eV]) rfl ?_
  refine r_alloc hz ?_
  have hfr9 : ∀ i, i < 10 → Free (w9.alloc (.cells z.cells C.tOld)) w9.heap.size (0 + i) := fun i hi => by rw [Nat.zero_add]; exact free_new w9 _ _ (by rw [hzc]; simpa using hi)
  have hb10 : Below w9.heap.size w9 (w9.alloc (.cells z.cells C.tOld)) := (Below.refl _ w9).alloc (o := .cells _ _) (Nat.le_refl _)
  have hz10 : (w9.alloc (.cells z.cells C.tOld)).heap.size = w9.heap.size + 1 := by simp
  generalize w9.alloc (.cells z.cells C.tOld) = w10 at *
  refine r_storeAgg (b := w9.heap.size) (o := 0) (cs := zs) (by simp (disch := (try simp only [sP]); omega) only [eV]) (by simp (disch := (try simp only [sP]); omega) only [eV]) hz1 (by rw [hzl]; exact H.aOld) (fun i hi => hfr9 i (by omega)) ?_
  have hb11 : Below w9.heap.size w9 (setCells w10 w9.heap.size 0 zs) := hb10.trans ((setCells_eff w9.heap.size zs w10 0).below (by omega) (by rintro i j hi ⟨h, _⟩; omega))
  generalize setCells w10 w9.heap.size 0 zs = w11 at *
  refine rA (dn ?_)
  have hz9 := hb9.size
  have hb811 : Below w8.heap.size w8 w11 := hb9.trans (hb11.mono hz9)
  have hw11 : Below w.heap.size w w11 := hw8.trans (hb811.mono (by omega))
  have hcg11 : Cells w11 m6 0 gs := hcg.below hb811 (by omega)
  have hc11 : Cells w11 w.heap.size 0 ds := hc8.below hb811 (by omega)
  have hg11 : (Y.got one).Rep P E w11 gs := hg8.below hb811
  have hY11 : Y.Rep P E w11 ds := hY.below (hb5.trans ((hb58.mono (by omega)).trans (hb811.mono (by omega))))
  generalize hB3 : Act.put _ (some 13) _ = B3
  have hsB3 : B3.tmps.size = nt := by rw [← hB3]; simp only [zP]; exact hsB2
  have hdB3 : B3.defers = [] := by rw [← hB3]; simp only [dF]; exact hdB2
  have g3 : B3.eval (.tmp 3) = .pointer (some ⟨w.heap.size, 0, none⟩) := by rw [← hB3]; simp (disch := (try simp only [sP]); omega) only [eV, g3]
  have g10 : B3.eval (.tmp 10) = .pointer (some ⟨m6, 0, none⟩) := by rw [← hB3]; simp (disch := (try simp only [sP]); omega) only [eV, g10]
  have g11 : B3.eval (.tmp 11) = .bool true := by rw [← hB3]; simp (disch := (try simp only [sP]); omega) only [eV, g11]
  have g13 : B3.eval (.tmp 13) = .bool false := by rw [← hB3]; simp (disch := (try simp only [sP]); omega) only [eV]
  clear hB3
  refine vS (vc_runS ?_)
  refine rD rfl (wN rfl) (rM (dn (rT ?_)))
  refine rD rfl (wN rfl) (rM (dn (rT ?_)))
  refine rD rfl (by rw [wS (b := true) rfl rfl (by simp (disch := (try simp only [sP]); omega) only [eV, g11])]; rfl) (rM (dn (rT ?_)))
  refine rD rfl (by rw [wS (b := true) rfl rfl (by simp (disch := (try simp only [sP]); omega) only [eV, g11])]; rfl) (r_not (b := false) (by simp (disch := (try simp only [sP]); omega) only [eV, g13]) (dn (rT ?_)))
  refine rD rfl (wN rfl) (r_pickT (by simp (disch := (try simp only [sP]); omega) only [eV, g11]) (dn (rT ?_)))
  refine rD rfl (wN rfl) (rM (dn (rT ?_)))
  refine rD rfl (by rw [wS (b := true) rfl rfl (by simp (disch := (try simp only [sP]); omega) only [eV, Bool.not_false])]; rfl) (r_loadAgg (b := m6) (o := 0) (cs := gs) (by simp (disch := (try simp only [sP]); omega) only [eV, g10]) (by rw [hgl]; exact H.aOld) hcg11 (dn (rT ?_)))
  refine rD rfl (by rw [wS (b := true) rfl rfl (by simp (disch := (try simp only [sP]); omega) only [eV, Bool.not_false])]; rfl) (r_loadAgg (b := w.heap.size) (o := 0) (cs := ds) (by simp (disch := (try simp only [sP]); omega) only [eV, g3]) (by rw [hdl]; exact H.aOld) hc11 (dn (rT ?_)))
  refine rD rfl (by rw [wS (b := true) rfl rfl (by simp (disch := (try simp only [sP]); omega) only [eV, Bool.not_false])]; rfl) ?_
  refine r_call' (args := #[.agg gs.toArray, .agg ds.toArray]) ?_ (c_sold_ok H hg11 hY11 (got_ok hYo) hYo (by have := got_len one Y; omega) (by omega)) ?_
  ·simp only [lM]
   simp (disch := (try simp only [sP]); omega) only [eV]
  rintro v12 w12 ⟨rfl, hb12⟩
  refine dn (rT ?_)
  refine rD rfl (wN rfl) (r_pickT (by simp (disch := (try simp only [sP]); omega) only [eV, Bool.not_false]) (dn (rT ?_)))
  refine rD rfl (wN rfl) (rA (dn (rT ?_)))
  refine runS_nil ?_
  refine vS (vT ?_)
  refine ⟨by simp only [dF]; exact hdB3, .bool (decide ((Y.got one).wr true = Y.wr true)), rO (by simp (disch := (try simp only [sP]); omega) only [eV]), ?_, hw11.trans (hb12.mono hw11.size)⟩
  rw [hgw]
  simp
 obtain ⟨kv, vv, rfl, hkv1, hkv2⟩ := hX
 refine vS (vX (rM (dn ?_)))
 cases one with
 | true =>
  refine vS (vC (t := true) (by simp (disch := (try simp only [sP]); omega) only [eV, k1]) (fun _ => ?_) (fun h => by cases h))
  refine vR (by simp) ?_
  refine rA (rA (dn (vN ?_)))
  refine fin _ w3 (X.cells kv vv) (by simp only [zP]; exact hsA) (by simp only [dF]; exact hdA) (by simp (disch := (try simp only [sP]); omega) only [eV, k2]) (by simp (disch := (try simp only [sP]); omega) only [eV, k3]) (by simp (disch := (try simp only [sP]); omega) only [eV]; rfl) (by simp (disch := (try simp only [sP]); omega) only [eV, eval_func]; rfl) hw3 hc3 ⟨kv, vv, rfl, hkv1.below hw3, hkv2.below hw3⟩ (by have := hb13.size; omega)
 | false =>
  refine vS (vC (t := false) (by simp (disch := (try simp only [sP]); omega) only [eV, k1]) (fun h => by cases h) (fun _ => ?_))
  refine vR (by simp) ?_
  refine rF (b := w.heap.size) (o := 0) (by simp (disch := (try simp only [sP]); omega) only [eV, k3]) H.f5 ?_
  have hf5 : Free w3 w.heap.size (0 + 5) := hfr3 5 (by omega)
  refine r_store (b := w.heap.size) (o := 0 + 5) (v := .int .i64 0) (by simp (disch := (try simp only [sP]); omega) only [eV]) (by simp (disch := (try simp only [sP]); omega) only [eV]) rfl H.o64 hf5 ?_
  refine dn (vN ?_)
  have hE4 : Eff (fun i j => i = w.heap.size ∧ j = 5) w3 (w3.setCell ⟨w.heap.size, 0 + 5, none⟩ (.int .i64 0)) := (Eff.refl _ w3).setCell _ _ _ (fun _ => ⟨rfl, rfl⟩)
  have hc5 : (w3.setCell ⟨w.heap.size, 0 + 5, none⟩ (.int .i64 0)).cell? ⟨w.heap.size, 0 + 5, none⟩ = some (.int .i64 0) := cell_setCell_same _ hf5.1
  have hz3 : w.heap.size < w3.heap.size := by have := hb13.size; omega
  have hw4 : Below w.heap.size w (w3.setCell ⟨w.heap.size, 0 + 5, none⟩ (.int .i64 0)) := hw3.trans (hE4.below (by omega) (by rintro i j hi ⟨h, _⟩; omega))
  have hz4 : w.heap.size < (w3.setCell ⟨w.heap.size, 0 + 5, none⟩ (.int .i64 0)).heap.size := Nat.lt_of_lt_of_le hz3 hE4.size
  generalize w3.setCell ⟨w.heap.size, 0 + 5, none⟩ (.int .i64 0) = w4 at *
  refine fin _ w4 ((X.at false).cells kv vv) (by simp only [zP]; exact hsA) (by simp only [dF]; exact hdA) (by simp (disch := (try simp only [sP]); omega) only [eV, k2]) (by simp (disch := (try simp only [sP]); omega) only [eV, k3]) (by simp (disch := (try simp only [sP]); omega) only [eV, k7]; rfl) (by simp (disch := (try simp only [sP]); omega) only [eV, k8]; rfl) hw4 ?_ ⟨kv, vv, rfl, hkv1.below hw4, hkv2.below hw4⟩ hz4
  intro i v hv
  by_cases hi : i = 5
  ·subst hi
   have e : v = .int .i64 0 := by simpa [OX.cells, OX.at] using hv.symm
   subst e
   exact hc5
  ·refine hE4.cellSome (hc3 i v ?_) (by rintro ⟨_, h⟩; omega)
   match i, hv with
   | 0, hv => exact hv
   | 1, hv => exact hv
   | 2, hv => exact hv
   | 3, hv => exact hv
   | 4, hv => exact hv
   | 5, _ => exact absurd rfl hi
   | 6, hv => exact hv
   | 7, hv => exact hv
   | 8, hv => exact hv
   | 9, hv => exact hv
   | i + 10, hv => simp [OX.cells] at hv
end
end Go.Km
namespace Go.Km
open Go Go.RowKit Go.ChangeShapes Go.WideShapes Go.ChangeAt
structure OldT (P : Program) (E : Env) (C : OC) : Prop where
 old : structB P C.tOld [(E.tI64, 0), (E.tI32, 1), (E.tI32, 2), (E.tI8, 3), (E.tI8, 4), (E.tI64, 5), (C.tOct, 6), (C.tOct, 8)] = true
 oct : structB P C.tOct [(E.tO, 0), (E.tB, 1)] = true
 bytes : P.underlying E.tB = some (.slice E.tU8)
 u8 : P.underlying E.tU8 = some (.int .u8)
 i8 : P.underlying E.tI8 = some (.int .i8)
 i32 : P.underlying E.tI32 = some (.int .i32)
 i64 : P.underlying E.tI64 = some (.int .i64)
 u16 : P.underlying E.tU16 = some (.int .u16)
 bool : P.underlying E.tO = some .bool
 cOld : P.cellsOf C.tOld = 10
 cOct : P.cellsOf C.tOct = 2
 c8 : P.cellsOf E.tU8 = 1
 ci8 : P.cellsOf E.tI8 = 1
 c32 : P.cellsOf E.tI32 = 1
 c64 : P.cellsOf E.tI64 = 1
 cBool : P.cellsOf E.tO = 1
 cBytes : P.cellsOf E.tB = 1
section
variable {H : Type} {enc : TypeId × Value → H} {P : Program} {E : Env} {C : OC} {W : World} {sp : Nat → Bool} {held : Bool}
theorem trod_bytes (T : OldT P E C) {fuel : Nat} {c : List Value} {x : DataW H × List MemPlace} (h : DataW.trod enc P W 0 sp held fuel E.tB c = some x) : ∃ v l, c = [v] ∧ BytesIn P E W v l := by
 rcases open_ints T.bytes T.u8 T.c8 h with ⟨rfl, _⟩ | ⟨a, len, cap, zs, rfl, _, hl, hm, hz, hx, hcell, hwz⟩
 ·exact ⟨_, [], rfl, ⟨_, _, rfl⟩, fun w' _ => Src.ofNil w' T.bytes 0⟩
 have hzl : len ≤ zs.length := by rw [hz]; split <;> omega
 have hlen : ((zs.take len).map fun n => UInt8.ofNat n.toNat).length = len := by simp; omega
 refine ⟨_, (zs.take len).map fun n => UInt8.ofNat n.toNat, rfl, ⟨_, _, by rw [hlen]⟩, fun w' hb => ?_⟩
 rw [hlen]
 refine Src.ofSlice w' T.bytes a len cap _ (by simp; omega) (fun j u hu => ?_) (bv_one _)
 have hj : j < len := by
  rcases Nat.lt_or_ge j len with h | h
  ·exact h
  ·rw [List.getElem?_eq_none (by simp; omega)] at hu; cases hu
 have hcj := hcell j (by omega)
 rw [Below.cell hb (p := a.add j) (World.block_lt_of_cell? W _ hcj), hcj]
 have hb2 := range_u8 hwz j
 simp only [List.getElem?_map, List.getElem?_take, if_pos hj, List.getElem?_eq_getElem (show j < zs.length by omega), Option.map_some, Option.some.injEq] at hu
 subst hu
 have e : zs.getD j 0 = zs[j]'(by omega) := by simp [List.getD, List.getElem?_eq_getElem (show j < zs.length by omega)]
 rw [e]
 rw [List.getD_eq_getElem?_getD] at e
 rw [e] at hb2
 simp only [bv, UInt8.toNat_ofNat']
 congr 2
 omega
theorem wf_i64 {a : Int} (h : (Lit.int .i64 a).wf = true) : Scal.i64.ok a := by
 have h2 : IntKind.i64.min ≤ a ∧ a ≤ IntKind.i64.max := by simpa [Lit.wf] using h
 have e1 : IntKind.i64.min = -9223372036854775808 := by decide
 have e2 : IntKind.i64.max = 9223372036854775807 := by decide
 rw [e1, e2] at h2
 exact h2
theorem wf_i32 {a : Int} (h : (Lit.int .i32 a).wf = true) : Scal.i32.ok a := by
 have h2 : IntKind.i32.min ≤ a ∧ a ≤ IntKind.i32.max := by simpa [Lit.wf] using h
 have e1 : IntKind.i32.min = -2147483648 := by decide
 have e2 : IntKind.i32.max = 2147483647 := by decide
 rw [e1, e2] at h2
 exact h2
theorem wf_i8 {a : Int} (h : (Lit.int .i8 a).wf = true) : Scal.i8.ok a := by
 have h2 : IntKind.i8.min ≤ a ∧ a ≤ IntKind.i8.max := by simpa [Lit.wf] using h
 have e1 : IntKind.i8.min = -128 := by decide
 have e2 : IntKind.i8.max = 127 := by decide
 rw [e1, e2] at h2
 exact h2
theorem trod_oct (T : OldT P E C) {fuel : Nat} {c : List Value} {x : DataW H × List MemPlace} (h : DataW.trod enc P W 0 sp held fuel C.tOct c = some x) : ∃ n v l, c = [.bool n, v] ∧ BytesIn P E W v l := by
 obtain ⟨fs, hu, hsz, hget⟩ := structB_inv T.oct
 obtain ⟨xs, n, _, hx, hcl, hxl, hf⟩ := DataW.trod_struct hu h
 rw [T.cOct] at hcl
 obtain ⟨c0, c1, rfl⟩ : ∃ c0 c1, c = [c0, c1] := by
  match c, hcl with
  | [c0, c1], _ => exact ⟨c0, c1, rfl⟩
 obtain ⟨f0, h0, h1, h2⟩ := hget 0 _ rfl
 obtain ⟨f1, g0, g1, g2⟩ := hget 1 _ rfl
 have a0 := hf 0 f0 h0
 have a1 := hf 1 f1 g0
 rw [h1, h2, T.cBool, List.getElem?_eq_getElem (show 0 < xs.length by rw [hxl, hsz]; simp)] at a0
 rw [g1, g2, T.cBytes, List.getElem?_eq_getElem (show 1 < xs.length by rw [hxl, hsz]; simp)] at a1
 obtain ⟨nb, e0, _⟩ := DataW.trod_bool T.bool a0
 obtain ⟨v, l, e1, hin⟩ := trod_bytes T a1
 simp only [List.drop_zero, List.take_succ_cons, List.take_zero, List.cons.injEq, and_true] at e0
 simp only [List.drop_succ_cons, List.drop_zero, List.take_succ_cons, List.take_zero, List.cons.injEq, and_true] at e1
 subst e0 e1
 exact ⟨nb, _, l, rfl, hin⟩
theorem trod_old (T : OldT P E C) {fuel : Nat} {c : List Value} {x : DataW H × List MemPlace} (h : DataW.trod enc P W 0 sp held fuel C.tOld c = some x) : ∃ X : OX, X.Rep P E W c ∧ X.ok := by
 obtain ⟨fs, hu, hsz, hget⟩ := structB_inv T.old
 obtain ⟨xs, n, _, hx, hcl, hxl, hf⟩ := DataW.trod_struct hu h
 rw [T.cOld] at hcl
 obtain ⟨c0, c1, c2, c3, c4, c5, c6, c7, c8, c9, rfl⟩ : ∃ c0 c1 c2 c3 c4 c5 c6 c7 c8 c9, c = [c0, c1, c2, c3, c4, c5, c6, c7, c8, c9] := by
  match c, hcl with
  | [c0, c1, c2, c3, c4, c5, c6, c7, c8, c9], _ => exact ⟨c0, c1, c2, c3, c4, c5, c6, c7, c8, c9, rfl⟩
 have hl : xs.length = 8 := by rw [hxl, hsz]; rfl
 obtain ⟨f0, h00, h01, h02⟩ := hget 0 _ rfl
 obtain ⟨f1, h10, h11, h12⟩ := hget 1 _ rfl
 obtain ⟨f2, h20, h21, h22⟩ := hget 2 _ rfl
 obtain ⟨f3, h30, h31, h32⟩ := hget 3 _ rfl
 obtain ⟨f4, h40, h41, h42⟩ := hget 4 _ rfl
 obtain ⟨f5, h50, h51, h52⟩ := hget 5 _ rfl
 obtain ⟨f6, h60, h61, h62⟩ := hget 6 _ rfl
 obtain ⟨f7, h70, h71, h72⟩ := hget 7 _ rfl
 have a0 := hf 0 f0 h00
 have a1 := hf 1 f1 h10
 have a2 := hf 2 f2 h20
 have a3 := hf 3 f3 h30
 have a4 := hf 4 f4 h40
 have a5 := hf 5 f5 h50
 have a6 := hf 6 f6 h60
 have a7 := hf 7 f7 h70
 rw [h01, h02, T.c64, List.getElem?_eq_getElem (show 0 < xs.length by omega)] at a0
 rw [h11, h12, T.c32, List.getElem?_eq_getElem (show 1 < xs.length by omega)] at a1
 rw [h21, h22, T.c32, List.getElem?_eq_getElem (show 2 < xs.length by omega)] at a2
 rw [h31, h32, T.ci8, List.getElem?_eq_getElem (show 3 < xs.length by omega)] at a3
 rw [h41, h42, T.ci8, List.getElem?_eq_getElem (show 4 < xs.length by omega)] at a4
 rw [h51, h52, T.c64, List.getElem?_eq_getElem (show 5 < xs.length by omega)] at a5
 rw [h61, h62, T.cOct, List.getElem?_eq_getElem (show 6 < xs.length by omega)] at a6
 rw [h71, h72, T.cOct, List.getElem?_eq_getElem (show 7 < xs.length by omega)] at a7
 obtain ⟨k0, e0, _, w0⟩ := DataW.trod_int T.i64 a0
 obtain ⟨k1, e1, _, w1⟩ := DataW.trod_int T.i32 a1
 obtain ⟨k2, e2, _, w2⟩ := DataW.trod_int T.i32 a2
 obtain ⟨k3, e3, _, w3⟩ := DataW.trod_int T.i8 a3
 obtain ⟨k4, e4, _, w4⟩ := DataW.trod_int T.i8 a4
 obtain ⟨k5, e5, _, w5⟩ := DataW.trod_int T.i64 a5
 obtain ⟨nk, kv, lk, e6, hk⟩ := trod_oct T a6
 obtain ⟨nv, vv, lv, e7, hv⟩ := trod_oct T a7
 simp only [List.drop_zero, List.drop_succ_cons, List.take_succ_cons, List.take_zero, List.cons.injEq, and_true] at e0 e1 e2 e3 e4 e5 e6 e7
 obtain ⟨rfl, rfl⟩ := e6
 obtain ⟨rfl, rfl⟩ := e7
 subst e0 e1 e2 e3 e4 e5
 exact ⟨⟨k0, k1, k2, k3, k4, k5, nk, lk, nv, lv⟩, ⟨_, _, rfl, hk, hv⟩, wf_i64 w0, wf_i32 w1, wf_i32 w2, wf_i8 w3, wf_i8 w4, wf_i64 w5⟩
end
section
variable {H : Type} {enc : TypeId × Value → H} {P : Program} {E : Env} {C : OC}
theorem tellRow (T : OldT P E C) {f : Func} {L : FuncId} {s : ChangeSpec} {apart : Bool} (hp : f.params = #[C.tOld, E.tO, E.tU16]) (hrt : f.resultTypes = #[E.tO]) (hvars : s.vars = []) (hfn : ∀ d1 d2 d3 : DataW H, s.fn H [d1, d2, d3] = { results := [.lit (.bool true)], args := [d1, d2, d3] })
  (hl : laidOutB P = true) (hrO : P.readableRec C.tOld = true ∧ C.tOld < P.types.size) (hrB : P.readableRec E.tO = true ∧ E.tO < P.types.size) (hr16 : P.readableRec E.tU16 = true ∧ E.tU16 < P.types.size)
  {W : World} {base : Nat} {args : Array Value} {ds gs : List (DataW H)} {before : List MemPlace}
  (walk : ∀ (X : OX) (cs : List Value) (one : Bool) (k : Nat), X.Rep P E W cs → X.ok → k < 65536 → CallsV P L #[.agg cs.toArray, .bool one, .int .u16 k] W fun v w' => v = .bool true ∧ Below W.heap.size W w')
  (hval : ∀ (j : Nat) t v, f.params[j]? = some t → args[j]? = some v → Value.okWide P W .any base t v) (hW : DataW.Whole enc P f.params.toList s.vars apart W args.toList ds gs before) :
  Calls P L args W fun e W' => ∃ v, e = .returned v ∧ s.post enc P f apart true false false W args v W' := by
 have hW' := hW
 obtain ⟨p, q, hA, hV, rfl, _, _⟩ := hW
 rw [hp] at hA hval
 obtain ⟨v0, vs0, d0, ds0, p0, q0, hargs, rfl, rfl, h0, r0⟩ := trodAll_cons hA
 obtain ⟨v1, vs1, d1, ds1, p1, q1, rfl, rfl, rfl, h1, r1⟩ := trodAll_cons r0
 obtain ⟨v2, vs2, d2, ds2, p2, q2, rfl, rfl, rfl, h2, r2⟩ := trodAll_cons r1
 obtain ⟨rfl, rfl, rfl⟩ := trodAll_nil r2
 obtain rfl : args = #[v0, v1, v2] := by cases args; simp_all
 have hv0 : Value.okWide P W .any base C.tOld v0 := hval 0 _ v0 rfl rfl
 obtain ⟨cs, rfl, X, hX, hok⟩ : ∃ cs : List Value, v0 = .agg cs.toArray ∧ ∃ X : OX, X.Rep P E W cs ∧ X.ok := by
  obtain ⟨fs, hu, _⟩ := structB_inv T.old
  unfold Value.okWide at hv0
  rw [hu] at hv0
  obtain ⟨cs, rfl, _⟩ := hv0
  obtain ⟨fuel, hf⟩ := h0
  exact ⟨cs.toList, by simp, trod_old T hf⟩
 obtain ⟨b, rfl, rfl, rfl⟩ := open_bool T.bool (hval 1 _ v1 rfl rfl) h1
 obtain ⟨c, rfl, rfl, rfl, wc⟩ := open_int T.u16 (hval 2 _ v2 rfl rfl) h2
 obtain ⟨k, rfl, hk⟩ := u16_nat' wc
 refine (walk X cs b k hX hok hk).2.mono ?_
 rintro e W' ⟨v, rfl, rfl, hb⟩
 refine ⟨_, rfl, boolPost hW' hvars hl ?_ hb hrt T.bool (hfn _ _ _)⟩
 rw [hp]
 intro t ht
 simp only [List.mem_cons, List.not_mem_nil, or_false] at ht
 rcases ht with rfl | rfl | rfl
 ·exact hrO
 ·exact hrB
 ·exact hr16
end
end Go.Km
