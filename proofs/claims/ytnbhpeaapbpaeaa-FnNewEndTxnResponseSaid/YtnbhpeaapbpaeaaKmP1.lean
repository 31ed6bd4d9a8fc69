/- What the spec's functions compute, in plain Lean. -/
import Derived.Test.YtnbhpeaapbpaeaaKmS5
set_option linter.unusedSimpArgs false
set_option linter.unusedVariables false
namespace Go.Km
open Go Go.RowKit

def Trs.toL : Trs → List Tr
  | .nil => []
  | .cons t r => t :: r.toL
/-- spec.value; pt: what spec.part gives of the fields within. -/
def valW (kind : Int) (pt : Tr → List UInt8) (nl fx : Bool) (t : Tr) : List UInt8 :=
  match t with
  | .mk n s _ _ _ =>
    if kind = 0 then [o8 (n % 2)]
    else if kind = 7 then s.take 16 ++ List.replicate (16 - s.length) 0
    else if kind = 8 then (let s' := if nl then [] else s.take 32767; cnt fx nl s'.length 2 ++ s')
    else if kind = 9 then (let s' := if nl then [] else s.take 32767; cnt fx nl s'.length 4 ++ s')
    else if kind = 10 then pt t
    else be (widthOf kind.toNat) n
/-- One tag. -/
def wrTg (n : Nat) (b : List UInt8) : List UInt8 := Go.Km.uvar n ++ Go.Km.uvar b.length ++ b
/-- spec.unknown: by rising numbers, not below least, the first of like ones. -/
def insU (x : Nat × List UInt8) : List (Nat × List UInt8) → List (Nat × List UInt8)
  | [] => [x]
  | y :: r => if y.1 < x.1 then y :: insU x r else if y.1 = x.1 then y :: r else x :: y :: r
def unk (least : Nat) (u : List (Nat × List UInt8)) : List (Nat × List UInt8) :=
  (u.take 32767).foldl (fun l x => if x.1 < least then l else insU x l) []
/-- A field: its tag, has the version it, says it the usual, its octets. -/
abbrev Rec := Int × Bool × Bool × List UInt8
def known (l : List Int) : Nat := l.foldl (fun n t => if 0 ≤ t then max n (t.toNat + 1) else n) 0
def assemble (fx : Bool) (rs : List Rec) (u : List (Nat × List UInt8)) : List UInt8 :=
  let out := (rs.map fun r => if r.1 < 0 && r.2.1 then r.2.2.2 else []).flatten
  if fx then
    let kn := known (rs.map (·.1))
    let tg := (List.range kn).flatMap fun (k : Nat) => rs.filterMap fun r => if decide (r.1 = ((k : Nat) : Int)) && !r.2.2.1 then some ((k : Nat), r.2.2.2) else none
    let un := (unk kn u).map fun x => (x.1, x.2.take 32767)
    out ++ Go.Km.uvar (tg.length + un.length) ++ ((tg ++ un).map fun x => wrTg x.1 x.2).flatten
  else out
def SFs.tags : SFs → List Int
  | .nil => []
  | .cons (.mk _ _ _ _ tag _ _ _) r => tag :: r.tags
mutual
/-- spec.usual -/
def SF.usual : SF → Tr → Bool
  | .mk kind _ _ nul _ df _ sub, t =>
    match t with
    | .mk n s nl l u =>
      if kind = 0 then n % 2 == df
      else if kind = 7 then (s.take 16).all (· == 0)
      else if kind = 8 || kind = 9 then (if nul ≥ 0 then nl else s.isEmpty)
      else if kind = 11 then l.len == 0
      else if kind = 10 then sub.usual 0 (.mk n s nl l u) && (unk (known sub.tags) u).isEmpty
      else be (widthOf kind.toNat) n == be (widthOf kind.toNat) df
def SFs.usual : SFs → Nat → Tr → Bool
  | .nil, _, _ => true
  | .cons f r, i, t => f.usual (t.at i) && r.usual (i + 1) t
end
mutual
/-- spec.field -/
def SF.wr (v : Int) (fx : Bool) : SF → Tr → List UInt8
  | .mk kind fr to nul tag df el sub, t =>
    let nl := (SF.mk kind fr to nul tag df el sub).isNull v t
    let pt : Tr → List UInt8 := fun t => assemble fx (sub.recs v fx 0 t) (match t with | .mk _ _ _ _ u => u)
    if kind = 11 then
      let l := if nl then [] else (match t with | .mk _ _ _ l _ => l.toL.take 32767)
      cnt fx nl l.length 4 ++ (l.map fun t => valW el pt false fx t).flatten
    else if kind = 10 && nul ≥ 0 then (if nl then be 1 (-1) else be 1 1 ++ pt t)
    else valW kind pt nl fx t
def SFs.recs (v : Int) (fx : Bool) : SFs → Nat → Tr → List Rec
  | .nil, _, _ => []
  | .cons f r, i, t => ((match f with | .mk _ _ _ _ tag _ _ _ => tag), f.has v, f.usual (t.at i), f.wr v fx (t.at i)) :: r.recs v fx (i + 1) t
end
/-- spec.part -/
def SFs.part (v : Int) (fx : Bool) (fs : SFs) (t : Tr) : List UInt8 := assemble fx (fs.recs v fx 0 t) (match t with | .mk _ _ _ _ u => u)
mutual
/-- spec.Default -/
def SF.one : SF → Tr
  | .mk kind _ _ nul _ df _ sub => .mk df [] (decide (nul ≥ 0)) (if kind = 10 then sub.ones else .nil) []
def SFs.ones : SFs → Trs
  | .nil => .nil
  | .cons f r => .cons f.one r.ones
end
def SFs.dflt (fs : SFs) : Tr := .mk 0 [] false fs.ones []

mutual
/-- The default of a field, as data. -/
def Ty.dflt : Ty → D
  | .scal _ df | .named _ _ df => .int df
  | .uuid => .bytes (some (List.replicate 16 0))
  | .text => .bytes (some [])
  | .ntext | .ntextFrom _ => .bytes none
  | .bytes | .nbytes => .bytes none
  | .list _ _ _ => .list none
  | .struct _ _ _ fs => .obj fs.dflt []
def Flds.dflt : Flds → List D
  | .nil _ => []
  | .cons _ t r => t.dflt :: r.dflt
end
end Go.Km
