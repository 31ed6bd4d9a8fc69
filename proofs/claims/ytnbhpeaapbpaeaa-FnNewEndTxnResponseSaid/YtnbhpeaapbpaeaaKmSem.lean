/- What kmsg's messages say, as data; what is written of data; how data lie in memory. No program in sight but for memory. -/
import Derived.Test.YtnbhpeaapbpaeaaKmGen
namespace Go.Km
open Go Go.RowKit

/-- What a field says: a number; octets (or null); a list (or null); the fields of a struct and its unknown tags by rising numbers. -/
inductive D where
  | int (n : Int)
  | bytes (o : Option (List UInt8))
  | list (o : Option (List D))
  | obj (l : List D) (tags : List (Nat × List UInt8))
  deriving Inhabited

/-! ## octets -/
def bv (b : UInt8) : Value := .int .u8 b.toNat
/-- A number in so many octets, the highest one first. -/
def be : Nat → Int → List UInt8
  | 0, _ => []
  | k + 1, n => UInt8.ofNat ((n.fdiv (256 ^ k)) % 256).toNat :: be k n
/-- A number in groups of seven bits. -/
def uvF : Nat → Nat → List UInt8
  | 0, n => [UInt8.ofNat n]
  | f + 1, n => if n < 128 then [UInt8.ofNat n] else UInt8.ofNat (n % 128 + 128) :: uvF f (n / 128)
def uvar (n : Nat) : List UInt8 := uvF 9 n
/-- More octets than these are never written. -/
def big : Nat := 2147483000

def Scal.wr : Scal → Int → List UInt8
  | .bool, n => [if n != 0 then 1 else 0]
  | .i8, n => be 1 n
  | .i16, n | .u16, n => be 2 n
  | .i32, n => be 4 n
  | .i64, n => be 8 n
  | .f64, n => be 8 n.toNat
def wrStr (fx : Bool) (l : List UInt8) : List UInt8 := (if fx then uvar (l.length + 1) else be 2 l.length) ++ l
def wrNStr (fx : Bool) : Option (List UInt8) → List UInt8
  | none => if fx then [0] else be 2 (-1)
  | some l => wrStr fx l
def wrBytes (fx : Bool) (l : List UInt8) : List UInt8 := (if fx then uvar (l.length + 1) else be 4 l.length) ++ l
def wrNBytes (fx : Bool) : Option (List UInt8) → List UInt8
  | none => if fx then [0] else be 4 (-1)
  | some l => wrBytes fx l
def wrLen (fx : Bool) (n : Nat) : List UInt8 := if fx then uvar (n + 1) else be 4 n
def wrNull (fx : Bool) : List UInt8 := if fx then [0] else be 4 (-1)
def wrTag (x : Nat × List UInt8) : List UInt8 := uvar x.1 ++ uvar x.2.length ++ x.2
def wrTags (l : List (Nat × List UInt8)) : List UInt8 := uvar l.length ++ (l.map wrTag).flatten

/-- A number that a scalar holds. -/
def Scal.ok : Scal → Int → Prop
  | .bool, n => n = 0 ∨ n = 1
  | .i8, n => -128 ≤ n ∧ n ≤ 127
  | .i16, n => -32768 ≤ n ∧ n ≤ 32767
  | .u16, n => 0 ≤ n ∧ n ≤ 65535
  | .i32, n => -2147483648 ≤ n ∧ n ≤ 2147483647
  | .i64, n => -9223372036854775808 ≤ n ∧ n ≤ 9223372036854775807
  | .f64, n => 0 ≤ n ∧ n < 18446744073709551616
/-- Tags by rising numbers. -/
def TagsOk (tags : List (Nat × List UInt8)) : Prop := tags.Pairwise (fun x y => x.1 < y.1) ∧ ∀ x ∈ tags, x.1 < 4294967296

def Ver.has (ver : Nat) : Ver → Bool
  | .all => true
  | .ge n => decide (n ≤ ver)
  | .btw n m => decide (n ≤ ver) && decide (ver ≤ m)

mutual
/-- What is written. -/
def Ty.wr (fx : Bool) (ver : Nat) : Ty → D → List UInt8
  | .scal s _, .int n | .named s _ _, .int n => s.wr n
  | .uuid, .bytes (some l) => l
  | .text, .bytes (some l) => wrStr fx l
  | .ntext, .bytes o => wrNStr fx o
  | .ntextFrom N, .bytes o => if ver < N then wrStr fx (o.getD []) else wrNStr fx o
  | .bytes, .bytes o => wrBytes fx (o.getD [])
  | .nbytes, .bytes o => wrNBytes fx o
  | .list _ null _, .list none => if null.isSome then wrNull fx else wrLen fx 0
  | .list _ _ e, .list (some l) => wrLen fx l.length ++ (l.map fun d => e.wr fx ver d).flatten
  | .struct _ _ _ fs, .obj l tags => fs.wr fx ver l tags
  | _, _ => []
def Flds.wr (fx : Bool) (ver : Nat) : Flds → List D → List (Nat × List UInt8) → List UInt8
  | .nil _, _, tags => if fx then wrTags tags else []
  | .cons v t r, d :: l, tags => (if v.has ver then t.wr fx ver d else []) ++ r.wr fx ver l tags
  | .cons _ _ _, [], _ => []
end

/-! ## memory -/
mutual
/-- How many cells a field has. -/
def Ty.size : Ty → Nat
  | .uuid => 16
  | .struct _ _ _ fs => fs.size
  | _ => 1
def Flds.size : Flds → Nat
  | .nil tags => if tags then 1 else 0
  | .cons _ t r => t.size + r.size
end

/-- What every part of what was read may point to: the block of the octets that were read; and which tags there may be. -/
structure Sb where
  b : Nat
  T : List (Nat × List UInt8) → Prop
/-- A slice that reads as these octets (nil reads as none). -/
def OctRep (w : World) (sb : Sb) (B : Nat) (v : Value) (l : List UInt8) : Prop :=
  (v = .slice none 0 0 ∧ l = []) ∨ ∃ c o cap, v = .slice (some ⟨c, o, none⟩) l.length cap ∧ (c = sb.b ∨ B ≤ c) ∧ c < w.heap.size ∧ Cells w c o (l.map bv)
/-- A map of tags in memory: the entries are these tags in some order. -/
def TagsRep (w : World) (sb : Sb) (B : Nat) (v : Value) (tags : List (Nat × List UInt8)) : Prop :=
  TagsOk tags ∧ sb.T tags ∧ ((v = .map none ∧ tags = []) ∨
  ∃ q es clock, v = .map (some q) ∧ B ≤ q ∧ q < w.heap.size ∧ w.heap[q]? = some (.map es clock) ∧ (∀ e ∈ es.toList, e.born < clock) ∧ (es.toList.map (·.born)).Nodup ∧
    ∃ l : List (Nat × List UInt8), l.Perm tags ∧ l.length = es.size ∧
      ∀ (i : Nat) (x : Nat × List UInt8), l[i]? = some x → ∃ e : MapEntry, es[i]? = some e ∧ e.key = .int .u32 x.1 ∧ OctRep w sb B e.val x.2)

mutual
/-- These cells say the data. sb: the block of the octets that were read; whatever else is pointed to lies in blocks from B on. -/
def Ty.Rep (w : World) (sb : Sb) : Nat → Ty → List Value → D → Prop
  | _, .scal s _, cs, .int n => cs = [s.val n] ∧ s.ok n
  | _, .named s _ _, cs, .int n => cs = [s.val n] ∧ s.ok n
  | _, .uuid, cs, .bytes (some l) => l.length = 16 ∧ cs = l.map bv
  | _, .text, cs, .bytes (some l) => cs = [.string ⟨l.toArray⟩]
  | _, .ntext, cs, .bytes none | _, .ntextFrom _, cs, .bytes none => cs = [.pointer none]
  | B, .ntext, cs, .bytes (some l) | B, .ntextFrom _, cs, .bytes (some l) => ∃ q, cs = [.pointer (some ⟨q, 0, none⟩)] ∧ B ≤ q ∧ w.cell? ⟨q, 0, none⟩ = some (.string ⟨l.toArray⟩)
  | _, .bytes, cs, .bytes none | _, .nbytes, cs, .bytes none => cs = [.slice none 0 0]
  | B, .bytes, cs, .bytes (some l) | B, .nbytes, cs, .bytes (some l) => ∃ q o cap, cs = [.slice (some ⟨q, o, none⟩) l.length cap] ∧ (q = sb.b ∨ B ≤ q) ∧ Cells w q o (l.map bv) ∧ q < w.heap.size
  | _, .list _ _ _, cs, .list none => cs = [.slice none 0 0]
  | B, .list _ _ e, cs, .list (some l) => ∃ q cap, cs = [.slice (some ⟨q, 0, none⟩) l.length cap] ∧ B ≤ q ∧ q < w.heap.size ∧ l.length ≤ big ∧
      ∀ (i : Nat) (d : D), l[i]? = some d → ∃ c : List Value, c.length = e.size ∧ Cells w q (i * e.size) c ∧ e.Rep w sb (q + 1) c d
  | B, .struct _ _ _ fs, cs, .obj l tags => fs.Rep w sb B cs l tags
  | _, _, _, _ => False
def Flds.Rep (w : World) (sb : Sb) : Nat → Flds → List Value → List D → List (Nat × List UInt8) → Prop
  | B, .nil t, cs, [], tags => if t then ∃ v, cs = [v] ∧ TagsRep w sb B v tags else cs = [] ∧ tags = []
  | B, .cons _ t r, cs, d :: l, tags => t.Rep w sb B (cs.take t.size) d ∧ r.Rep w sb B (cs.drop t.size) l tags
  | _, _, _, _, _ => False
end
end Go.Km
