/- The plain law of what the spec writes: it is what is written of data that can be read. The plain law of what the spec writes, second part. spec.value spec.value: the whole. spec.value: the whole. spec.field spec.field: a list. spec.field: the whole. spec.field: the whole. spec.known spec.Write spec.part: the unknown tags and the end. spec.part. spec.unknown: the plain law, the rows, the two tests. -/
import Derived.Test.YticdohpbambelaaGreatDoorKb03
import Derived.Test.YticdohpbambelaaGreatDoorKb04
import Derived.Laws.CopyRow
import Derived.Laws.IdiomCopy
import Derived.Laws.OwnMore
set_option linter.unusedSimpArgs false
set_option linter.unusedVariables false
namespace Go.Km
open Go Go.RowKit
theorem be_congr : ∀ (k : Nat) (n m : Int), n % (256 ^ k : Nat) = m % (256 ^ k : Nat) → be k n = be k m
 | 0, _, _, _ => rfl
 | k + 1, n, m, h => by
  have hp : (0 : Int) < ((256 ^ k : Nat) : Int) := by
   have : 0 < 256 ^ k := Nat.pow_pos (by decide)
   omega
  have e1 : ((256 ^ (k + 1) : Nat) : Int) = ((256 ^ k : Nat) : Int) * 256 := by rw [Nat.pow_succ]; simp
  rw [e1] at h
  have h1 : n % ((256 ^ k : Nat) : Int) = m % ((256 ^ k : Nat) : Int) := by
   have := congrArg (fun x => x % ((256 ^ k : Nat) : Int)) h
   simpa only [Int.emod_emod_of_dvd _ (Int.dvd_mul_right _ _)] using this
  rw [emod_mul' n _ hp, emod_mul' m _ hp, h1] at h
  have h2 : n / ((256 ^ k : Nat) : Int) % 256 = m / ((256 ^ k : Nat) : Int) % 256 := by
   have h3 : ((256 ^ k : Nat) : Int) * (n / ((256 ^ k : Nat) : Int) % 256) = ((256 ^ k : Nat) : Int) * (m / ((256 ^ k : Nat) : Int) % 256) := by omega
   exact Int.eq_of_mul_eq_mul_left (by omega) h3
  have h4 : ∀ x : Int, x.fdiv (256 ^ k) = x / ((256 ^ k : Nat) : Int) := fun x => by
   rw [Int.fdiv_eq_ediv_of_nonneg _ (by have := hp; simpa using Int.le_of_lt this)]
   simp
  simp only [be, h4, h2, be_congr k n m h1]
theorem sgn_mod {k n : Nat} (hk : 0 < k) (h : n < 256 ^ k) : (sgn k n) % (256 ^ k : Nat) = (n : Int) := by
 have e0 : 2 ^ (8 * k) = 256 ^ k := by rw [Nat.pow_mul]
 have e : (2 : Int) ^ (8 * k) = ((256 ^ k : Nat) : Int) := by rw [← e0]; simp
 have hn : (n : Int) < ((256 ^ k : Nat) : Int) := by exact_mod_cast h
 unfold sgn
 split
 ·exact Int.emod_eq_of_lt (by omega) hn
 ·rw [e, Int.sub_emod_right]
  exact Int.emod_eq_of_lt (by omega) hn
def Scal.fit : Scal → Int → Int
 | .bool, n => n % 2
 | .i8, n => sgn 1 (n % (256 ^ 1 : Nat)).toNat
 | .i16, n => sgn 2 (n % (256 ^ 2 : Nat)).toNat
 | .u16, n => n % (256 ^ 2 : Nat)
 | .i32, n => sgn 4 (n % (256 ^ 4 : Nat)).toNat
 | .i64, n => sgn 8 (n % (256 ^ 8 : Nat)).toNat
 | .f64, n => n % (256 ^ 8 : Nat)
def Scal.knd : Scal → Int
 | .bool => 0
 | .i8 => 1
 | .i16 => 2
 | .i32 => 3
 | .i64 => 4
 | .u16 => 5
 | .f64 => 6
theorem emod_toNat_lt (n : Int) (k : Nat) : (n % (256 ^ k : Nat)).toNat < 256 ^ k := by
 have hp : 0 < 256 ^ k := Nat.pow_pos (by decide)
 have h1 := Int.emod_nonneg n (show ((256 ^ k : Nat) : Int) ≠ 0 by omega)
 have h2 := Int.emod_lt_of_pos n (show (0 : Int) < ((256 ^ k : Nat) : Int) by omega)
 omega
theorem be_fit {k : Nat} (hk : 0 < k) (n : Int) : be k (sgn k (n % (256 ^ k : Nat)).toNat) = be k n := by
 refine be_congr k _ _ ?_
 have h1 := Int.emod_nonneg n (show ((256 ^ k : Nat) : Int) ≠ 0 by have : 0 < 256 ^ k := Nat.pow_pos (by decide); omega)
 rw [sgn_mod hk (emod_toNat_lt n k)]
 omega
theorem Scal.fit_ok (s : Scal) (n : Int) : s.ok (s.fit n) := by
 cases s
 case bool => simp only [Scal.ok, Scal.fit]; omega
 case u16 => simp only [Scal.ok, Scal.fit]; omega
 case f64 => simp only [Scal.ok, Scal.fit]; omega
 case i8 => have := sgn_rng (k := 1) (by decide) (emod_toNat_lt n 1); simp only [Scal.ok, Scal.fit]; omega
 case i16 => have := sgn_rng (k := 2) (by decide) (emod_toNat_lt n 2); simp only [Scal.ok, Scal.fit]; omega
 case i32 => have := sgn_rng (k := 4) (by decide) (emod_toNat_lt n 4); simp only [Scal.ok, Scal.fit]; omega
 case i64 => have := sgn_rng (k := 8) (by decide) (emod_toNat_lt n 8); simp only [Scal.ok, Scal.fit]; omega
theorem Scal.fit_wr (s : Scal) (n : Int) (h0 : s ≠ .bool) : s.wr (s.fit n) = be (widthOf s.knd.toNat) n := by
 cases s
 case bool => exact absurd rfl h0
 case i8 => exact be_fit (k := 1) (by decide) n
 case i16 => exact be_fit (k := 2) (by decide) n
 case i32 => exact be_fit (k := 4) (by decide) n
 case i64 => exact be_fit (k := 8) (by decide) n
 case u16 => exact be_congr 2 _ _ (Int.emod_emod_of_dvd _ (Int.dvd_refl _))
 case f64 =>
  refine be_congr 8 _ _ ?_
  simp only [Scal.fit]
  omega
theorem Scal.fit_bool (n : Int) : Scal.bool.wr (Scal.bool.fit n) = [o8 (n % 2)] := by
 have : n % 2 = 0 ∨ n % 2 = 1 := by omega
 rcases this with h | h <;> simp [Scal.wr, Scal.fit, h, o8]
def SF.subs : SF → SFs
 | .mk _ _ _ _ _ _ _ sub => sub
def tagsD (fx : Bool) (t : Tr) : List (Nat × List UInt8) := if fx then (unk 0 (match t with | .mk _ _ _ _ u => u)).map (fun x => (x.1, x.2.take 32767)) else []
def Tr.s : Tr → List UInt8
 | .mk _ s _ _ _ => s
def Tr.n : Tr → Int
 | .mk n _ _ _ _ => n
def Tr.l : Tr → List Tr
 | .mk _ _ _ l _ => l.toL
mutual
def Ty.toD (fx : Bool) (ver : Nat) : Ty → SFs → Bool → Tr → D
 | .scal s _, _, _, t | .named s _ _, _, _, t => .int (s.fit t.n)
 | .uuid, _, _, t => .bytes (some (t.s.take 16 ++ List.replicate (16 - t.s.length) 0))
 | .text, _, nl, t | .bytes, _, nl, t => .bytes (some (if nl then [] else t.s.take 32767))
 | .ntext, _, nl, t | .nbytes, _, nl, t | .ntextFrom _, _, nl, t => .bytes (if nl then none else some (t.s.take 32767))
 | .list _ null e, sub, nl, t => if nl || (null.isNone && t.l.isEmpty) then .list none else .list (some ((t.l.take 32767).map fun t => e.toD fx ver sub false t))
 | .struct _ _ _ fs, sub, _, t => .obj (fs.toD fx ver sub 0 t) (tagsD fx t)
 | .nstruct _ _ _ _ _, _, _, _ => .list none
def Flds.toD (fx : Bool) (ver : Nat) : Flds → SFs → Nat → Tr → List D
 | .nil _, _, _, _ => []
 | .cons v ty r, .cons f rs, i, t => (if v.has ver then ty.toD fx ver f.subs (f.isNull ver (t.at i)) (t.at i) else ty.dflt) :: r.toD fx ver rs (i + 1) t
 | .cons v ty r, .nil, i, t => ty.dflt :: r.toD fx ver .nil (i + 1) t
end
def Ver.agr : Ver → Int → Int → Bool
 | .all, fr, to => decide (fr ≤ 0) && decide (to < 0)
 | .ge n, fr, to => decide (fr = n) && decide (to < 0)
 | .btw n m, fr, to => decide (fr = n) && decide (to = m)
mutual
def Ty.agr : Ty → Int → Int → Int → SFs → Bool
 | .scal s _, kind, _, _, _ | .named s _ _, kind, _, _, _ => kind == s.knd
 | .uuid, kind, _, _, _ => kind == 7
 | .text, kind, nul, _, _ => kind == 8 && decide (nul < 0)
 | .ntext, kind, _, _, _ => kind == 8
 | .ntextFrom N, kind, nul, _, _ => kind == 8 && decide (nul = (N : Int))
 | .bytes, kind, nul, _, _ => kind == 9 && decide (nul < 0)
 | .nbytes, kind, _, _, _ => kind == 9
 | .list _ null e, kind, nul, el, sub => kind == 11 && (match null with | none => decide (nul < 0) | some N => decide (nul = (N : Int))) && (el != 11) && e.agr el (-1) 0 sub
 | .struct _ _ _ fs, kind, nul, _, sub => kind == 10 && decide (nul < 0) && fs.agr sub
 | .nstruct _ _ _ _ _, _, _, _, _ => false
def Flds.agr : Flds → SFs → Bool
 | .nil _, .nil => true
 | .cons v ty r, .cons (.mk kind fr to nul tag df el sub) rs => v.agr fr to && decide (tag < 0) && ty.agr kind nul el sub && r.agr rs
 | _, _ => false
end
mutual
def Tr.tok : Tr → Prop
 | .mk _ _ _ l u => (∀ x ∈ u, x.1 < 4294967296) ∧ l.tok
def Trs.tok : Trs → Prop
 | .nil => True
 | .cons t r => t.tok ∧ r.tok
end
theorem Trs.tok_get : ∀ {l : Trs}, l.tok → ∀ {i : Nat} {t : Tr}, l.get i = some t → t.tok
 | .nil, _, _, _, h => by cases h
 | .cons t r, h, 0, u, e => by
  simp only [Trs.get, Option.some.injEq] at e
  subst e
  exact h.1
 | .cons t r, h, i + 1, u, e => Trs.tok_get (l := r) h.2 e
theorem Trs.tok_toL : ∀ {l : Trs}, l.tok → ∀ t ∈ l.toL, t.tok
 | .nil, _, t, h => by simp [Trs.toL] at h
 | .cons u r, h, t, e => by
  simp only [Trs.toL, List.mem_cons] at e
  rcases e with rfl | e
  ·exact h.1
  ·exact Trs.tok_toL (l := r) h.2 t e
theorem Tr.tok_at {t : Tr} (h : t.tok) (i : Nat) : (t.at i).tok := by
 cases t with
 | mk n s nl l u =>
  simp only [Tr.at]
  cases hg : l.get i with
  | none => exact ⟨by simp, trivial⟩
  | some x => exact Trs.tok_get h.2 hg
theorem Tr.tok_l {t : Tr} (h : t.tok) : ∀ x ∈ t.l, x.tok := by
 cases t with
 | mk n s nl l u => exact Trs.tok_toL h.2
theorem insU_mem (x : Nat × List UInt8) : ∀ l y, y ∈ insU x l → y = x ∨ y ∈ l
 | [], y, h => by simpa [insU] using h
 | z :: r, y, h => by
  unfold insU at h
  split at h
  ·rcases List.mem_cons.1 h with h | h
   ·exact .inr (by simp [h])
   ·rcases insU_mem x r y h with h | h
    ·exact .inl h
    ·exact .inr (by simp [h])
  ·split at h
   ·exact .inr h
   ·rcases List.mem_cons.1 h with h | h
    ·exact .inl h
    ·exact .inr h
theorem insU_lenD (x : Nat × List UInt8) : ∀ l, (insU x l).length ≤ l.length + 1
 | [] => by simp [insU]
 | z :: r => by
  have := insU_lenD x r
  unfold insU
  split
  ·simp only [List.length_cons]; omega
  ·split <;> simp
theorem insU_sorted (x : Nat × List UInt8) : ∀ l : List (Nat × List UInt8), l.Pairwise (fun a b => a.1 < b.1) → (insU x l).Pairwise (fun a b => a.1 < b.1)
 | [], _ => by simp [insU]
 | z :: r, h => by
  have h1 := List.pairwise_cons.1 h
  unfold insU
  split
  ·rename_i hz
   refine List.pairwise_cons.2 ⟨fun y hy => ?_, insU_sorted x r h1.2⟩
   rcases insU_mem x r y hy with rfl | hy
   ·exact hz
   ·exact h1.1 y hy
  ·split
   ·exact h
   ·rename_i h2 h3
    refine List.pairwise_cons.2 ⟨fun y hy => ?_, h⟩
    rcases List.mem_cons.1 hy with rfl | hy
    ·omega
    ·have := h1.1 y hy
     omega
theorem unk_fold (P : (Nat × List UInt8) → Prop) (least : Nat) : ∀ (u acc : List (Nat × List UInt8)), (∀ x ∈ u, P x) → (∀ x ∈ acc, P x) → acc.Pairwise (fun a b => a.1 < b.1) →
  (∀ x ∈ u.foldl (fun l x => if x.1 < least then l else insU x l) acc, P x) ∧ (u.foldl (fun l x => if x.1 < least then l else insU x l) acc).Pairwise (fun a b => a.1 < b.1) ∧ (u.foldl (fun l x => if x.1 < least then l else insU x l) acc).length ≤ acc.length + u.length
 | [], acc, _, h1, h2 => ⟨h1, h2, Nat.le_refl _⟩
 | x :: u, acc, h0, h1, h2 => by
  simp only [List.foldl_cons, List.length_cons]
  by_cases hx : x.1 < least
  ·rw [if_pos hx]
   have := unk_fold P least u acc (fun y hy => h0 y (by simp [hy])) h1 h2
   exact ⟨this.1, this.2.1, by omega⟩
  ·rw [if_neg hx]
   have h3 := unk_fold P least u (insU x acc) (fun y hy => h0 y (by simp [hy])) (fun y hy => by
    rcases insU_mem x acc y hy with rfl | hy
    ·exact h0 _ (by simp)
    ·exact h1 y hy) (insU_sorted x acc h2)
   have := insU_lenD x acc
   exact ⟨h3.1, h3.2.1, by have := h3.2.2; omega⟩
theorem tagsD_good {fx : Bool} {t : Tr} (h : t.tok) : if fx then tagsGood (tagsD fx t) else tagsD fx t = [] := by
 cases fx with
 | false => simp [tagsD]
 | true =>
  simp only [if_true]
  cases t with
  | mk n s nl l u =>
   have h1 := unk_fold (fun x => x.1 < 4294967296) 0 (u.take 32767) [] (fun x hx => h.1 x (List.mem_of_mem_take hx)) (by simp) List.Pairwise.nil
   have e : tagsD true (.mk n s nl l u) = (unk 0 u).map (fun x => (x.1, x.2.take 32767)) := rfl
   have hu : unk 0 u = (u.take 32767).foldl (fun l x => if x.1 < 0 then l else insU x l) [] := rfl
   rw [e]
   rw [← hu] at h1
   have h2 := List.length_take_le 32767 u
   refine ⟨⟨List.pairwise_map.2 h1.2.1, fun x hx => ?_⟩, ?_, fun x hx => ?_⟩
   ·obtain ⟨y, hy, rfl⟩ := List.mem_map.1 hx
    exact h1.1 y hy
   ·rw [List.length_map]
    have := h1.2.2
    simp only [List.length_nil] at this
    omega
   ·obtain ⟨y, hy, rfl⟩ := List.mem_map.1 hx
    have := List.length_take_le 32767 y.2
    show (y.2.take 32767).length < _
    omega
theorem Ver.agr_has {v : Ver} {fr to : Int} (h : v.agr fr to = true) (ver : Nat) {kind nul tag df el : Int} {sub : SFs} : (SF.mk kind fr to nul tag df el sub).has (ver : Int) = v.has ver := by
 cases v with
 | all =>
  simp only [Ver.agr, Bool.and_eq_true, decide_eq_true_eq] at h
  have h1 : fr ≤ (ver : Int) := by omega
  simp [SF.has, Ver.has, h1, h.2]
 | ge n =>
  simp only [Ver.agr, Bool.and_eq_true, decide_eq_true_eq] at h
  obtain ⟨rfl, h2⟩ := h
  simp [SF.has, Ver.has, h2]
 | btw n m =>
  simp only [Ver.agr, Bool.and_eq_true, decide_eq_true_eq] at h
  obtain ⟨rfl, rfl⟩ := h
  have h1 : ¬ ((m : Int) < 0) := by omega
  simp [SF.has, Ver.has, h1]
theorem isNull_neg {kind fr to nul tag df el v : Int} {sub : SFs} {t : Tr} (h : nul < 0) : (SF.mk kind fr to nul tag df el sub).isNull v t = false := by
 cases t with
 | mk n s nl l u =>
  have : ¬ (nul ≥ 0) := by omega
  simp [SF.isNull, this]
theorem isNull_ge {kind fr to nul tag df el v : Int} {sub : SFs} {t : Tr} (h : (SF.mk kind fr to nul tag df el sub).isNull v t = true) : 0 ≤ nul ∧ nul ≤ v := by
 cases t with
 | mk n s nl l u =>
  simp only [SF.isNull, Bool.and_eq_true, decide_eq_true_eq] at h
  exact ⟨h.1.2, h.2⟩
theorem cnt2 (fx : Bool) (l : List UInt8) : cnt fx false l.length 2 ++ l = wrStr fx l := by
 unfold cnt wrStr
 cases fx <;> simp
theorem cnt4 (fx : Bool) (l : List UInt8) : cnt fx false l.length 4 ++ l = wrBytes fx l := by
 unfold cnt wrBytes
 cases fx <;> simp
theorem known_nil : ∀ (l : List Int) (n : Nat), (∀ t ∈ l, t < 0) → l.foldl (fun n t => if 0 ≤ t then max n (t.toNat + 1) else n) n = n
 | [], n, _ => rfl
 | t :: l, n, h => by
  have := h t (by simp)
  rw [List.foldl_cons, if_neg (by omega)]
  exact known_nil l n (fun x hx => h x (by simp [hx]))
theorem wrTg_eq (x : Nat × List UInt8) : wrTg x.1 x.2 = wrTag x := rfl
theorem assemble_none {fx : Bool} {rs : List Rec} {t : Tr} (h : ∀ r ∈ rs, r.1 < 0) :
  assemble fx rs (match t with | .mk _ _ _ _ u => u) = (rs.map fun r => if r.2.1 then r.2.2.2 else []).flatten ++ (if fx then wrTags (tagsD fx t) else []) := by
 have h1 : (rs.map fun r => if r.1 < 0 && r.2.1 then r.2.2.2 else []) = rs.map fun r => if r.2.1 then r.2.2.2 else [] := by
  refine List.map_congr_left fun r hr => ?_
  have := h r hr
  simp [this]
 have h2 : known (rs.map (·.1)) = 0 := known_nil _ 0 (fun x hx => by
  obtain ⟨r, hr, rfl⟩ := List.mem_map.1 hx
  exact h r hr)
 unfold assemble
 simp only [h1, h2]
 cases fx with
 | false => simp
 | true =>
  simp only [if_true, List.range_zero, List.flatMap_nil, List.nil_append, List.append_assoc, List.length_nil, Nat.zero_add]
  simp [wrTags, tagsD, wrTg_eq]
theorem Flds.agr_tags : ∀ {fs : Flds} {sub : SFs}, fs.agr sub = true → ∀ (v : Int) (fx : Bool) (i : Nat) (t : Tr), ∀ r ∈ sub.recs v fx i t, r.1 < 0
 | .nil _, .nil, _, v, fx, i, t, r, hr => by simp [SFs.recs] at hr
 | .nil _, .cons _ _, h, _, _, _, _, _, _ => by simp [Flds.agr] at h
 | .cons _ _ _, .nil, h, _, _, _, _, _, _ => by simp [Flds.agr] at h
 | .cons vv ty fs, .cons (.mk kind fr to nul tag df el sub) rs, h, v, fx, i, t, r, hr => by
  simp only [Flds.agr, Bool.and_eq_true, decide_eq_true_eq] at h
  simp only [SFs.recs, List.mem_cons] at hr
  rcases hr with rfl | hr
  ·exact h.1.1.2
  ·exact Flds.agr_tags h.2 v fx (i + 1) t r hr
end Go.Km
namespace Go.Km
open Go Go.RowKit
def ptOf (fx : Bool) (v : Int) (sub : SFs) : Tr → List UInt8 := fun t => assemble fx (sub.recs v fx 0 t) (match t with | .mk _ _ _ _ u => u)
theorem SF.wrV {fx : Bool} {v kind fr to nul tag df el : Int} {sub : SFs} {t : Tr} (h11 : kind ≠ 11) (h10 : kind = 10 → nul < 0) :
  SF.wr v fx (.mk kind fr to nul tag df el sub) t = valW kind (ptOf fx v sub) ((SF.mk kind fr to nul tag df el sub).isNull v t) fx t := by
 have h : ¬ ((decide (kind = 10) && decide (nul ≥ 0)) = true) := by
  simp only [Bool.and_eq_true, decide_eq_true_eq]
  rintro ⟨h1, h2⟩
  have := h10 h1
  omega
 simp only [SF.wr, h11, if_false, h]
 rfl
theorem SF.wrL {fx : Bool} {v fr to nul tag df el : Int} {sub : SFs} {t : Tr} :
  SF.wr v fx (.mk 11 fr to nul tag df el sub) t = cnt fx ((SF.mk 11 fr to nul tag df el sub).isNull v t) (if (SF.mk 11 fr to nul tag df el sub).isNull v t then [] else t.l.take 32767).length 4 ++ ((if (SF.mk 11 fr to nul tag df el sub).isNull v t then [] else t.l.take 32767).map fun t => valW el (ptOf fx v sub) false fx t).flatten := by
 cases t
 simp only [SF.wr, if_true]
 rfl
theorem valW_num {s : Scal} {pt : Tr → List UInt8} {nl fx : Bool} {t : Tr} : valW s.knd pt nl fx t = s.wr (s.fit t.n) := by
 cases t with
 | mk n sv b l u =>
  by_cases hb : s = .bool
  ·subst hb
   rw [Scal.fit_bool]
   rfl
  ·rw [Scal.fit_wr s _ hb]
   cases s <;> first | exact absurd rfl hb | rfl
theorem valW_uuid {pt : Tr → List UInt8} {nl fx : Bool} {t : Tr} : valW 7 pt nl fx t = t.s.take 16 ++ List.replicate (16 - t.s.length) 0 := by
 cases t; rfl
theorem valW_text {pt : Tr → List UInt8} {nl fx : Bool} {t : Tr} : valW 8 pt nl fx t = cnt fx nl (if nl then [] else t.s.take 32767).length 2 ++ (if nl then [] else t.s.take 32767) := by
 cases t; rfl
theorem valW_bytes {pt : Tr → List UInt8} {nl fx : Bool} {t : Tr} : valW 9 pt nl fx t = cnt fx nl (if nl then [] else t.s.take 32767).length 4 ++ (if nl then [] else t.s.take 32767) := by
 cases t; rfl
theorem valW_struct {pt : Tr → List UInt8} {nl fx : Bool} {t : Tr} : valW 10 pt nl fx t = pt t := by
 cases t; rfl
theorem Scal.knd_le (s : Scal) : s.knd ≤ 6 := by cases s <;> decide
mutual
theorem Ty.toD_wr (fx : Bool) (ver : Nat) : ∀ (ty : Ty) (kind fr to nul tag df el : Int) (sub : SFs) (t : Tr), ty.agr kind nul el sub = true →
  (∀ nl : Bool, (nl = true → 0 ≤ nul ∧ nul ≤ ver) → kind ≠ 11 → valW kind (ptOf fx ver sub) nl fx t = ty.wr fx ver (ty.toD fx ver sub nl t)) ∧
  SF.wr ver fx (.mk kind fr to nul tag df el sub) t = ty.wr fx ver (ty.toD fx ver sub ((SF.mk kind fr to nul tag df el sub).isNull ver t) t)
 | .scal s _, kind, fr, to, nul, tag, df, el, sub, t, h | .named s _ _, kind, fr, to, nul, tag, df, el, sub, t, h => by
  simp only [Ty.agr, beq_iff_eq] at h
  subst h
  have hk := s.knd_le
  have hA : ∀ nl : Bool, valW s.knd (ptOf fx ver sub) nl fx t = s.wr (s.fit t.n) := fun nl => valW_num
  refine ⟨fun nl _ _ => by simp only [Ty.toD, Ty.wr]; exact hA nl, ?_⟩
  rw [SF.wrV (by omega) (by omega), hA]
  simp only [Ty.toD, Ty.wr]
 | .uuid, kind, fr, to, nul, tag, df, el, sub, t, h => by
  simp only [Ty.agr, beq_iff_eq] at h
  subst h
  refine ⟨fun nl _ _ => by simp only [Ty.toD, Ty.wr]; exact valW_uuid, ?_⟩
  rw [SF.wrV (by omega) (by omega), valW_uuid]
  simp only [Ty.toD, Ty.wr]
 | .text, kind, fr, to, nul, tag, df, el, sub, t, h => by
  simp only [Ty.agr, Bool.and_eq_true, beq_iff_eq, decide_eq_true_eq] at h
  obtain ⟨rfl, h2⟩ := h
  have hA : ∀ nl : Bool, nl = false → valW 8 (ptOf fx ver sub) nl fx t = Ty.wr fx ver .text (Ty.toD fx ver .text sub nl t) := fun nl hn => by
   subst hn
   rw [valW_text]
   simp only [Ty.toD, Ty.wr, Bool.false_eq_true, if_false]
   exact cnt2 fx _
  refine ⟨fun nl hn _ => hA nl (by cases nl with | false => rfl | true => have := hn rfl; omega), ?_⟩
  rw [SF.wrV (by omega) (by omega)]
  exact hA _ (isNull_neg h2)
 | .ntext, kind, fr, to, nul, tag, df, el, sub, t, h => by
  simp only [Ty.agr, beq_iff_eq] at h
  subst h
  have hA : ∀ nl : Bool, valW 8 (ptOf fx ver sub) nl fx t = Ty.wr fx ver .ntext (Ty.toD fx ver .ntext sub nl t) := fun nl => by
   rw [valW_text]
   cases nl with
   | false =>
    simp only [Ty.toD, Ty.wr, Bool.false_eq_true, if_false, wrNStr]
    exact cnt2 fx _
   | true => cases fx <;> simp [Ty.toD, Ty.wr, wrNStr, cnt]
  refine ⟨fun nl _ _ => hA nl, ?_⟩
  rw [SF.wrV (by omega) (by omega)]
  exact hA _
 | .ntextFrom N, kind, fr, to, nul, tag, df, el, sub, t, h => by
  simp only [Ty.agr, Bool.and_eq_true, beq_iff_eq, decide_eq_true_eq] at h
  obtain ⟨rfl, h2⟩ := h
  have hA : ∀ nl : Bool, (nl = true → 0 ≤ nul ∧ nul ≤ ver) → valW 8 (ptOf fx ver sub) nl fx t = Ty.wr fx ver (.ntextFrom N) (Ty.toD fx ver (.ntextFrom N) sub nl t) := fun nl hn => by
   rw [valW_text]
   cases nl with
   | false =>
    have e : Ty.wr fx ver (.ntextFrom N) (.bytes (some (t.s.take 32767))) = wrStr fx (t.s.take 32767) := by
     simp only [Ty.wr]
     split <;> rfl
    simp only [Ty.toD, Bool.false_eq_true, if_false, e]
    exact cnt2 fx _
   | true =>
    have hN : ¬ ver < N := by have := hn rfl; omega
    cases fx <;> simp [Ty.toD, Ty.wr, wrNStr, cnt, hN]
  refine ⟨fun nl hn _ => hA nl hn, ?_⟩
  rw [SF.wrV (by omega) (by omega)]
  exact hA _ (fun h => isNull_ge h)
 | .bytes, kind, fr, to, nul, tag, df, el, sub, t, h => by
  simp only [Ty.agr, Bool.and_eq_true, beq_iff_eq, decide_eq_true_eq] at h
  obtain ⟨rfl, h2⟩ := h
  have hA : ∀ nl : Bool, nl = false → valW 9 (ptOf fx ver sub) nl fx t = Ty.wr fx ver .bytes (Ty.toD fx ver .bytes sub nl t) := fun nl hn => by
   subst hn
   rw [valW_bytes]
   simp only [Ty.toD, Ty.wr, Bool.false_eq_true, if_false, Option.getD_some]
   exact cnt4 fx _
  refine ⟨fun nl hn _ => hA nl (by cases nl with | false => rfl | true => have := hn rfl; omega), ?_⟩
  rw [SF.wrV (by omega) (by omega)]
  exact hA _ (isNull_neg h2)
 | .nbytes, kind, fr, to, nul, tag, df, el, sub, t, h => by
  simp only [Ty.agr, beq_iff_eq] at h
  subst h
  have hA : ∀ nl : Bool, valW 9 (ptOf fx ver sub) nl fx t = Ty.wr fx ver .nbytes (Ty.toD fx ver .nbytes sub nl t) := fun nl => by
   rw [valW_bytes]
   cases nl with
   | false =>
    simp only [Ty.toD, Ty.wr, Bool.false_eq_true, if_false, wrNBytes]
    exact cnt4 fx _
   | true => cases fx <;> simp [Ty.toD, Ty.wr, wrNBytes, cnt]
  refine ⟨fun nl _ _ => hA nl, ?_⟩
  rw [SF.wrV (by omega) (by omega)]
  exact hA _
 | .list TS null e, kind, fr, to, nul, tag, df, el, sub, t, h => by
  simp only [Ty.agr, Bool.and_eq_true, beq_iff_eq, bne_iff_ne, ne_eq] at h
  obtain ⟨⟨⟨rfl, hnul⟩, hel⟩, he⟩ := h
  refine ⟨fun nl _ h11 => absurd rfl h11, ?_⟩
  have hE : ∀ x : Tr, valW el (ptOf fx ver sub) false fx x = e.wr fx ver (e.toD fx ver sub false x) := fun x => (Ty.toD_wr fx ver e el 0 0 (-1) 0 0 0 sub x he).1 false (fun h => by cases h) hel
  rw [SF.wrL]
  have hgn : (SF.mk 11 fr to nul tag df el sub).isNull ver t = true → ∃ N, null = some N := fun h => by
   have := isNull_ge h
   cases null with
   | none => simp only [decide_eq_true_eq] at hnul; omega
   | some N => exact ⟨N, rfl⟩
  generalize hb : (SF.mk 11 fr to nul tag df el sub).isNull ver t = b at *
  cases b with
  | true =>
   obtain ⟨N, rfl⟩ := hgn rfl
   cases fx <;> simp [Ty.toD, Ty.wr, cnt, wrNull]
  | false =>
   simp only [Bool.false_eq_true, if_false, Ty.toD, Bool.false_or]
   cases hc : (null.isNone && t.l.isEmpty) with
   | true =>
    simp only [Bool.and_eq_true, Option.isNone_iff_eq_none, List.isEmpty_iff] at hc
    obtain ⟨rfl, h2⟩ := hc
    rw [h2]
    cases fx <;> simp [Ty.wr, cnt, wrLen]
   | false =>
    simp only [Bool.false_eq_true, if_false, Ty.wr, List.length_map, List.map_map]
    have e1 : cnt fx false (t.l.take 32767).length 4 = wrLen fx (t.l.take 32767).length := by cases fx <;> simp [cnt, wrLen]
    rw [e1]
    congr 2
    exact List.map_congr_left fun x _ => hE x
 | .nstruct _ _ _ _ _, kind, fr, to, nul, tag, df, el, sub, t, h => by simp [Ty.agr] at h
 | .struct TP TU F fs, kind, fr, to, nul, tag, df, el, sub, t, h => by
  simp only [Ty.agr, Bool.and_eq_true, beq_iff_eq, decide_eq_true_eq] at h
  obtain ⟨⟨rfl, h2⟩, h3⟩ := h
  have hA : ∀ nl : Bool, valW 10 (ptOf fx ver sub) nl fx t = Ty.wr fx ver (.struct TP TU F fs) (Ty.toD fx ver (.struct TP TU F fs) sub nl t) := fun nl => by
   rw [valW_struct]
   simp only [Ty.toD, Ty.wr]
   unfold ptOf
   refine (assemble_none (t := t) (Flds.agr_tags h3 _ _ _ _)).trans ?_
   exact Flds.toD_wr fx ver fs sub 0 t (tagsD fx t) h3
  refine ⟨fun nl _ _ => hA nl, ?_⟩
  rw [SF.wrV (by omega) (by omega)]
  exact hA _
theorem Flds.toD_wr (fx : Bool) (ver : Nat) : ∀ (fs : Flds) (sub : SFs) (i : Nat) (t : Tr) (tags : List (Nat × List UInt8)), fs.agr sub = true →
  ((sub.recs ver fx i t).map fun r => if r.2.1 then r.2.2.2 else []).flatten ++ (if fx then wrTags tags else []) = fs.wr fx ver (fs.toD fx ver sub i t) tags
 | .nil _, .nil, i, t, tags, h => by simp [SFs.recs, Flds.wr]
 | .nil _, .cons _ _, i, t, tags, h => by simp [Flds.agr] at h
 | .cons _ _ _, .nil, i, t, tags, h => by simp [Flds.agr] at h
 | .cons v ty r, .cons (.mk kind fr to nul tag df el sub) rs, i, t, tags, h => by
  simp only [Flds.agr, Bool.and_eq_true, decide_eq_true_eq] at h
  have h1 := Flds.toD_wr fx ver r rs (i + 1) t tags h.2
  have h2 := (Ty.toD_wr fx ver ty kind fr to nul tag df el sub (t.at i) h.1.2).2
  simp only [SFs.recs, List.map_cons, List.flatten_cons, Flds.toD, Flds.wr, List.append_assoc, h1]
  congr 1
  rw [Ver.agr_has h.1.1.1 ver]
  cases hv : v.has ver with
  | false => simp
  | true =>
   simp only [if_true]
   exact h2
end
theorem take_le (l : List UInt8) : (l.take 32767).length ≤ 32767 := List.length_take_le _ _
theorem strOk_take (fx : Bool) {l : List UInt8} (h : l.length ≤ 32767) : strOk fx l := by
 unfold strOk
 cases fx <;> simp <;> omega
theorem octOk_take (fx : Bool) {l : List UInt8} (h : l.length ≤ 32767) : octOk fx l := by
 unfold octOk
 cases fx <;> simp <;> omega
mutual
theorem Ty.toD_good (fx : Bool) (ver : Nat) : ∀ (ty : Ty) (kind nul el : Int) (sub : SFs) (nl : Bool) (t : Tr), ty.agr kind nul el sub = true → t.tok → (nl = true → 0 ≤ nul ∧ nul ≤ ver) → ty.good fx ver (ty.toD fx ver sub nl t)
 | .scal s _, kind, nul, el, sub, nl, t, h, ht, hn | .named s _ _, kind, nul, el, sub, nl, t, h, ht, hn => by
  simp only [Ty.toD, Ty.good]
  exact s.fit_ok _
 | .uuid, kind, nul, el, sub, nl, t, h, ht, hn => by
  simp only [Ty.toD, Ty.good, List.length_append, List.length_take, List.length_replicate]
  omega
 | .text, kind, nul, el, sub, nl, t, h, ht, hn => by
  simp only [Ty.toD, Ty.good]
  refine strOk_take fx ?_
  split
  ·simp
  ·exact take_le _
 | .ntext, kind, nul, el, sub, nl, t, h, ht, hn => by
  simp only [Ty.toD]
  cases nl with
  | true => simp [Ty.good]
  | false => simp only [Bool.false_eq_true, if_false, Ty.good]; exact strOk_take fx (take_le _)
 | .ntextFrom N, kind, nul, el, sub, nl, t, h, ht, hn => by
  simp only [Ty.agr, Bool.and_eq_true, beq_iff_eq, decide_eq_true_eq] at h
  simp only [Ty.toD]
  cases nl with
  | true =>
   simp only [if_true, Ty.good]
   have := hn rfl
   omega
  | false => simp only [Bool.false_eq_true, if_false, Ty.good]; exact strOk_take fx (take_le _)
 | .bytes, kind, nul, el, sub, nl, t, h, ht, hn => by
  simp only [Ty.toD, Ty.good]
  refine octOk_take fx ?_
  split
  ·simp
  ·exact take_le _
 | .nbytes, kind, nul, el, sub, nl, t, h, ht, hn => by
  simp only [Ty.toD]
  cases nl with
  | true => simp [Ty.good]
  | false => simp only [Bool.false_eq_true, if_false, Ty.good]; exact octOk_take fx (take_le _)
 | .list TS null e, kind, nul, el, sub, nl, t, h, ht, hn => by
  simp only [Ty.agr, Bool.and_eq_true, beq_iff_eq, bne_iff_ne, ne_eq] at h
  obtain ⟨⟨⟨rfl, hnul⟩, hel⟩, he⟩ := h
  simp only [Ty.toD]
  cases hc : (nl || (null.isNone && t.l.isEmpty)) with
  | true =>
   simp only [if_true, Ty.good]
   cases null with
   | none => exact .inl rfl
   | some N =>
    simp only [Option.isNone_some, Bool.false_and, Bool.or_false] at hc
    simp only [decide_eq_true_eq] at hnul
    have := hn hc
    exact .inr ⟨N, rfl, by omega⟩
  | false =>
   simp only [Bool.or_eq_false_iff] at hc
   simp only [Bool.false_eq_true, if_false, Ty.good, List.length_map, List.mem_map]
   have hl := List.length_take_le 32767 t.l
   refine ⟨fun h0 hm => ?_, by omega, ?_⟩
   ·subst h0
    have h1 := hc.2
    simp only [Option.isNone_none, Bool.true_and] at h1
    have h2 := congrArg List.length hm
    simp only [List.length_map, List.length_nil, List.length_take] at h2
    have h3 : t.l = [] := List.eq_nil_of_length_eq_zero (by omega)
    rw [h3] at h1
    simp at h1
   ·rintro d ⟨x, hx, rfl⟩
    exact Ty.toD_good fx ver e el (-1) 0 sub false x he (Tr.tok_l ht x (List.mem_of_mem_take hx)) (fun h => by cases h)
 | .nstruct _ _ _ _ _, kind, nul, el, sub, nl, t, h, ht, hn => by simp [Ty.agr] at h
 | .struct TP TU F fs, kind, nul, el, sub, nl, t, h, ht, hn => by
  simp only [Ty.agr, Bool.and_eq_true, beq_iff_eq, decide_eq_true_eq] at h
  simp only [Ty.toD, Ty.good]
  exact Flds.toD_good fx ver fs sub 0 t (tagsD fx t) h.2 ht (tagsD_good ht)
theorem Flds.toD_good (fx : Bool) (ver : Nat) : ∀ (fs : Flds) (sub : SFs) (i : Nat) (t : Tr) (tags : List (Nat × List UInt8)), fs.agr sub = true → t.tok → (if fx then tagsGood tags else tags = []) → fs.good fx ver (fs.toD fx ver sub i t) tags
 | .nil _, .nil, i, t, tags, h, ht, hg => by
  simp only [Flds.toD, Flds.good]
  exact hg
 | .nil _, .cons _ _, i, t, tags, h, ht, hg => by simp [Flds.agr] at h
 | .cons _ _ _, .nil, i, t, tags, h, ht, hg => by simp [Flds.agr] at h
 | .cons v ty r, .cons (.mk kind fr to nul tag df el sub) rs, i, t, tags, h, ht, hg => by
  simp only [Flds.agr, Bool.and_eq_true, decide_eq_true_eq] at h
  simp only [Flds.toD, Flds.good]
  refine ⟨?_, Flds.toD_good fx ver r rs (i + 1) t tags h.2 ht hg⟩
  cases hv : v.has ver with
  | false => simp
  | true =>
   simp only [if_true]
   exact Ty.toD_good fx ver ty kind nul el sub _ (t.at i) h.1.2 (Tr.tok_at ht i) (fun hb => isNull_ge hb)
end
theorem part_wr {fx : Bool} {ver : Nat} {fs : Flds} {sf : SFs} (h : fs.agr sf = true) (t : Tr) : sf.part ver fx t = fs.wr fx ver (fs.toD fx ver sf 0 t) (tagsD fx t) := by
 unfold SFs.part
 refine (assemble_none (t := t) (Flds.agr_tags h _ _ _ _)).trans ?_
 exact Flds.toD_wr fx ver fs sf 0 t (tagsD fx t) h
theorem part_good {fx : Bool} {ver : Nat} {fs : Flds} {sf : SFs} (h : fs.agr sf = true) {t : Tr} (ht : t.tok) : fs.good fx ver (fs.toD fx ver sf 0 t) (tagsD fx t) :=
 Flds.toD_good fx ver fs sf 0 t (tagsD fx t) h ht (tagsD_good ht)
end Go.Km
namespace Go.Km
open Go Go.RowKit
attribute [local irreducible] vc rO_ runG runS runD
structure STexts (P : Program) (E : Env) : Prop where
 has : Text P E.sHas 2 20 #[.tmp 4] (c_sHas E)
 null : Text P E.sNull 3 20 #[.tmp 6] (c_sNull E)
 whole : Text P E.sWhole 1 8 #[.tmp 2] (c_sWhole E)
 things : Text P E.sThings 1 8 #[.tmp 2] (c_sThings E)
 at' : Text P E.sAt 2 16 #[.cell 4 E.tT] (c_sAt E)
 uvar : Text P E.sUvar 1 20 #[.tmp 2] (c_sUvar E)
 fixed : Text P E.sFixed 2 22 #[.tmp 4] (c_sFixed E)
 width : Text P E.sWidth 1 11 #[.tmp 2] (c_sWidth E)
 counted : Text P E.sCounted 4 28 #[.tmp 8] (c_sCounted E)
 value : Text P E.sValue 6 70 #[.tmp 12] (c_sValue E)
 field : Text P E.sField 4 76 #[.tmp 8] (c_sField E)
 known : Text P E.sKnown 1 23 #[.tmp 2] (c_sKnown E)
 usual : Text P E.sUsual 2 91 #[.tmp 4] (c_sUsual E)
 unknown : Text P E.sUnknown 2 85 #[.tmp 4] (c_sUnknown E)
 part : Text P E.sPart 4 132 #[.tmp 8] (c_sPart E)
 dflt : E.sDefault ≠ 0 → Text P E.sDefault 1 35 #[.cell 2 E.tT] (c_sDefault E)
 write : Text P E.sWrite 3 21 #[.tmp 6] (c_sWrite E)
 same : Text P E.sSame 2 26 #[.tmp 4] (c_sSame E)
 mixed : P.follows .mixedOrders = true
def SlF (w : World) (U : Nat) (v : Value) (fs : SFs) : Prop :=
 (v = .slice none 0 0 ∧ fs.len = 0) ∨ ∃ q o cap, v = .slice (some ⟨q, o, none⟩) fs.len cap ∧ fs.len ≤ cap ∧ q < U ∧ fs.Rep w U q o
theorem SlF.below {w w' : World} {U : Nat} {v : Value} {fs : SFs} (h : SlF w U v fs) (hw : Below U w w') : SlF w' U v fs := by
 rcases h with h | ⟨q, o, cap, h1, h2, h3, h4⟩
 ·exact .inl h
 ·exact .inr ⟨q, o, cap, h1, h2, h3, h4.below hw h3⟩
theorem OctsB.mono {W : World} {B B' : Nat} {v : Value} {l : List UInt8} (h : OctsB W B v l) (hB : B ≤ B') : OctsB W B' v l := by
 rcases h with h | ⟨q, o, cap, h1, h2, h3, h4⟩
 ·exact .inl h
 ·exact .inr ⟨q, o, cap, h1, h2, by omega, h4⟩
theorem UnkB.mono {W : World} {B B' : Nat} {v : Value} {u : List (Nat × List UInt8)} (h : UnkB W B v u) (hB : B ≤ B') : UnkB W B' v u := by
 rcases h with h | ⟨q, o, cap, h1, h2, h3, h4⟩
 ·exact .inl h
 ·refine .inr ⟨q, o, cap, h1, h2, by omega, fun i x hx => ?_⟩
  obtain ⟨sv, h0, h5, h6⟩ := h4 i x hx
  exact ⟨sv, h0, h5, h6.mono hB⟩
mutual
theorem Tr.Rep.mono {w : World} {U U' : Nat} (hU : U ≤ U') : ∀ {t : Tr} {cs : List Value}, t.Rep w U cs → t.Rep w U' cs
 | .mk n s nl l u, cs, ⟨sv, lv, uv, h1, h2, h3, h4⟩ => by
  refine ⟨sv, lv, uv, h1, h2.mono hU, h3.mono hU, ?_⟩
  rcases h4 with h4 | ⟨q, o, cap, h5, h6, h7, h8⟩
  ·exact .inl h4
  ·exact .inr ⟨q, o, cap, h5, h6, by omega, Trs.Rep.mono hU h8⟩
theorem Trs.Rep.mono {w : World} {U U' q : Nat} (hU : U ≤ U') : ∀ {l : Trs} {o : Nat}, l.Rep w U q o → l.Rep w U' q o
 | .nil, _, _ => trivial
 | .cons t r, o, ⟨⟨c, h1, h2⟩, h3⟩ => ⟨⟨c, h1, Tr.Rep.mono hU h2⟩, Trs.Rep.mono hU h3⟩
end
mutual
theorem SF.Rep.mono {w : World} {U U' : Nat} (hU : U ≤ U') : ∀ {t : SF} {cs : List Value}, t.Rep w U cs → t.Rep w U' cs
 | .mk kind fr to nul tag df el sub, cs, ⟨sv, h1, h4⟩ => by
  refine ⟨sv, h1, ?_⟩
  rcases h4 with h4 | ⟨q, o, cap, h5, h6, h7, h8⟩
  ·exact .inl h4
  ·exact .inr ⟨q, o, cap, h5, h6, by omega, SFs.Rep.mono hU h8⟩
theorem SFs.Rep.mono {w : World} {U U' q : Nat} (hU : U ≤ U') : ∀ {l : SFs} {o : Nat}, l.Rep w U q o → l.Rep w U' q o
 | .nil, _, _ => trivial
 | .cons t r, o, ⟨⟨c, h1, h2⟩, h3⟩ => ⟨⟨c, h1, SF.Rep.mono hU h2⟩, SFs.Rep.mono hU h3⟩
end
theorem SlF.mono {w : World} {U U' : Nat} {v : Value} {fs : SFs} (h : SlF w U v fs) (hU : U ≤ U') : SlF w U' v fs := by
 rcases h with h | ⟨q, o, cap, h1, h2, h3, h4⟩
 ·exact .inl h
 ·exact .inr ⟨q, o, cap, h1, h2, by omega, h4.mono hU⟩
def PartC (P : Program) (E : Env) (ver : Int) (fx : Bool) (fs : SFs) : Prop :=
 ∀ (U : Nat) (w : World) (sv : Value) (t : Tr) (ts : List Value), U ≤ w.heap.size → SlF w U sv fs → t.Rep w U ts → (fs.part ver fx t).length ≤ big →
  Gives P E E.sPart U #[sv, .int .i64 ver, .bool fx, .agg ts.toArray] (fs.part ver fx t) w
def cText (E : Env) (X t : Nat) (size : Int) : Code :=
 sq [(rg [(oQ t (.fieldAddr E.tT (.tmp 11) 1) 0),
    (oQ (t + 1) (.load E.tB (.tmp t)) E.tB),
    (oQ (t + 2) (.call { callee := .value (.func E.sWhole), args := #[(.tmp (t + 1))], argTypes := #[E.tB] }) E.tB),
    (oQ X (.assign (.tmp (t + 2))) E.tB)]),
   (sq [(rg [(oQ (t + 3) (.move (.tmp 2)) E.tO)]),
    (.cond (.tmp (t + 3))
     (rg [(oQ X (.assign (.const (.slice none 0 0))) E.tB)])
     .skip)]),
   (rg [(oQ (t + 4) (.move (.tmp 4)) E.tO),
    (oQ (t + 5) (.move (.tmp 2)) E.tO),
    (oQ (t + 6) (.move (.tmp X)) E.tB),
    (oQ (t + 7) (.call { callee := .builtin .len, args := #[(.tmp (t + 6))], argTypes := #[E.tB] }) E.tI),
    (oQ (t + 8) (.call { callee := .value (.func E.sCounted), args := #[(.tmp (t + 4)), (.tmp (t + 5)), (.tmp (t + 7)), (.const (.int .i64 size))], argTypes := #[E.tO, E.tO, E.tI, E.tI] }) E.tB),
    (oQ (t + 9) (.move (.tmp X)) E.tB),
    (oQ (t + 10) (.call { callee := .builtin .append, args := #[(.tmp (t + 8)), (.tmp (t + 9))], argTypes := #[E.tB, E.tB] }) E.tB),
    (oQ 12 (.assign (.tmp (t + 10))) E.tB)]),
   .ret]
section
variable {P : Program} {E : Env} {w : World} {U : Nat}
theorem OctsB.form {v : Value} {l : List UInt8} (h : OctsB w U v l) : ∃ ad cap, v = .slice ad l.length cap ∧ l.length ≤ cap ∧ ∀ n w', n ≤ l.length → Below U w w' → OctsB w' U (.slice ad n cap) (l.take n) := by
 rcases h with ⟨⟨ad, cap, rfl⟩, rfl⟩ | ⟨q, o, cap, rfl, hcap, hq, hc⟩
 ·refine ⟨ad, cap, rfl, Nat.zero_le _, fun n w' hn _ => ?_⟩
  simp only [List.length_nil, Nat.le_zero] at hn
  subst hn
  exact .inl ⟨⟨_, _, rfl⟩, rfl⟩
 ·refine ⟨_, cap, rfl, hcap, fun n w' hn hw => .inr ⟨q, o, cap, ?_, ?_, hq, ?_⟩⟩
  ·rw [List.length_take, Nat.min_eq_left hn]
  ·rw [List.length_take]; omega
  ·rw [List.map_take]
   exact (hc.below hw hq).take n
theorem src_empty {P : Program} {t e : TypeId} {s cap : Nat} {ad : Option Addr} {w : World} (ht : sliceT P t = some (e, s)) : Src P s t (.slice ad 0 cap) 0 [] w := by
 cases ad with
 | none => exact src_nil ht
 | some a => exact Src.ofSlice w (sliceT_inv ht).1 a 0 cap [] (by simp) (fun j u hu => by simp at hu) (fun u hu => by simp at hu)
theorem OctsB.src {v : Value} {l : List UInt8} {T e : TypeId} (hT : sliceT P T = some (e, 1)) (h : OctsB w U v l) : Src P 1 T v l.length (l.map bv) w := by
 rcases h with ⟨⟨ad, cap, rfl⟩, rfl⟩ | ⟨q, o, cap, rfl, hcap, hq, hc⟩
 ·exact src_empty hT
 ·exact src_cells hT hc (by simp) (bv_one l)
theorem s_text (H : SEnv P E) (HT : STexts P E) {A : Act} {W : World} {X t size : Nat} {nl fx : Bool} {b : Nat} {sv : Value} {s : List UInt8} {Q : Exit → Act → World → Prop} (hX : X = 14 ∨ X = 15) (ht : 16 < t) (ht2 : t + 11 ≤ 70) (hsz8 : size ≤ 8)
  (hs : A.tmps.size = 70) (hd : A.defers = []) (f2 : A.eval (.tmp 2) = .bool nl) (f4 : A.eval (.tmp 4) = .bool fx) (f11 : A.eval (.tmp 11) = .pointer (some ⟨b, 0, none⟩)) (hc : W.cell? ⟨b, 1, none⟩ = some sv)
  (ho : OctsB w U sv s) (hw : Below U w W) (hU : U ≤ w.heap.size) (hbig : (cnt fx nl (if nl then [] else s.take 32767 : List UInt8).length size ++ (if nl then [] else s.take 32767)).length ≤ big)
  (hQ : ∀ a' w', (Out P #[.tmp 12] fun v w' => w'.ownsRow U E.tU8 1 v (cnt fx nl (if nl then [] else s.take 32767 : List UInt8).length size ++ (if nl then [] else s.take 32767)).length ((cnt fx nl (if nl then [] else s.take 32767 : List UInt8).length size ++ (if nl then [] else s.take 32767)).map bv) ∧ Below U w w') .ret a' w' → Q .ret a' w') : vc P (cText E X t size) Q A W := by
 obtain ⟨ad, cap, rfl, hcap, htake⟩ := ho.form
 have hsl := rB H.row
 unfold cText
 refine vX ?_
 refine rF (b := b) (o := 0) (by simp (disch := (try simp only [sP]); omega) only [eV, f11]) (offs_inv H.fTree (by decide)) ?_
 refine rL (b := b) (o := 0 + 1) (by simp (disch := (try simp only [sP]); omega) only [eV]) H.oBytes (by simpa using hc) ?_
 refine r_call' (args := #[.slice ad s.length cap]) ?_ (s_first (T := E.tB) (e := E.tU8) (c := .skip) (.inl hsl) H.int hcap HT.whole) ?_
 ·simp only [lM]
  simp (disch := (try simp only [sP]); omega) only [eV]
 rintro v w' ⟨rfl, rfl⟩
 refine rA (dn ?_)
 have hlt : s.take (min s.length 32767) = s.take 32767 := by
  rcases Nat.le_total s.length 32767 with h | h
  ·rw [Nat.min_eq_left h, List.take_length, List.take_of_length_le h]
  ·rw [Nat.min_eq_right h]
 have ho2 : ∀ w2, Below U w w2 → OctsB w2 U (.slice ad (min s.length 32767) cap) (s.take 32767) := by
  intro w2 hw2
  have := htake (min s.length 32767) w2 (Nat.min_le_left _ _) hw2
  rwa [hlt] at this
 have tail : ∀ (B : Act) (xv : Value) (x : List UInt8), B.tmps.size = 70 → B.defers = [] → B.eval (.tmp 2) = .bool nl → B.eval (.tmp 4) = .bool fx → B.eval (.tmp X) = xv → (∀ w2, Below U w w2 → OctsB w2 U xv x) → x = (if nl then [] else s.take 32767) →
   vc P (sq [(rg [(oQ (t + 4) (.move (.tmp 4)) E.tO),
    (oQ (t + 5) (.move (.tmp 2)) E.tO),
    (oQ (t + 6) (.move (.tmp X)) E.tB),
    (oQ (t + 7) (.call { callee := .builtin .len, args := #[(.tmp (t + 6))], argTypes := #[E.tB] }) E.tI),
    (oQ (t + 8) (.call { callee := .value (.func E.sCounted), args := #[(.tmp (t + 4)), (.tmp (t + 5)), (.tmp (t + 7)), (.const (.int .i64 size))], argTypes := #[E.tO, E.tO, E.tI, E.tI] }) E.tB),
    (oQ (t + 9) (.move (.tmp X)) E.tB),
    (oQ (t + 10) (.call { callee := .builtin .append, args := #[(.tmp (t + 8)), (.tmp (t + 9))], argTypes := #[E.tB, E.tB] }) E.tB),
    (oQ 12 (.assign (.tmp (t + 10))) E.tB)]), .ret]) Q B w' := by
  intro B xv x hs2 hd2 g2 g4 gX hox hx
  rw [← hx] at hbig hQ
  obtain ⟨ad2, cap2, rfl, _, _⟩ := (hox w (Below.refl _ _)).form
  have hxl : x.length ≤ big := by rw [List.length_append] at hbig; omega
  have hX70 : X < t := by omega
  refine vX (rM (rM (rM ?_)))
  refine r_len (ad := ad2) (n := x.length) (c := cap2) hsl (by simp (disch := (try simp only [sP]); omega) only [eV, gX]) ?_
  refine r_call' (args := #[.bool fx, .bool nl, .int .i64 (x.length : Int), .int .i64 (size : Int)]) ?_ (s_counted (U := U) HT.counted HT.uvar HT.fixed H.row H.u8 H.u64 H.i64 H.int hxl hsz8 (Nat.le_trans hU hw.size)) ?_
  ·simp only [lM]
   simp (disch := (try simp only [sP]); omega) only [eV, g2, g4]
  rintro v w2 ⟨hown, hb2⟩
  have hbw : Below U w w2 := hw.trans hb2
  refine rM ?_
  refine r_append (sz := 1) (U := U) (m := x.length) (news := x.map bv) H.row (by simp (disch := (try simp only [sP]); omega) only [eV]) (by simp (disch := (try simp only [sP]); omega) only [eV, gX]) hown (Nat.le_trans hU hbw.size) ((hox w2 hbw).src hsl) (by rw [List.length_append] at hbig; exact hbig) ?_
  intro v' w3 h1 h2
  rw [← List.length_append, ← List.map_append] at h1
  refine rA (dn (vS (vT ?_)))
  exact hQ _ _ ⟨by simp only [dF]; exact hd2, v', rO (by simp (disch := (try simp only [sP]); omega) only [eV]), h1, hbw.trans h2⟩
 refine vS (vX (rM (dn ?_)))
 refine vS (vC (t := nl) (by simp (disch := (try simp only [sP]); omega) only [eV, f2]) ?_ ?_)
 ·intro hn
  refine vR (by simp) ?_
  refine rA (dn (vN ?_))
  exact tail _ (.slice none 0 0) [] (by simp only [zP]; exact hs) (by simp only [dF]; exact hd) (by simp (disch := (try simp only [sP]); omega) only [eV, f2]) (by simp (disch := (try simp only [sP]); omega) only [eV, f4]) (by simp (disch := (try simp only [sP]); omega) only [eV]) (fun _ _ => .inl ⟨nilS, rfl⟩) (by rw [hn]; rfl)
 ·intro hn
  refine vK (vN ?_)
  exact tail _ (.slice ad (min s.length 32767) cap) (s.take 32767) (by simp only [zP]; exact hs) (by simp only [dF]; exact hd) (by simp (disch := (try simp only [sP]); omega) only [eV, f2]) (by simp (disch := (try simp only [sP]); omega) only [eV, f4]) (by simp (disch := (try simp only [sP]); omega) only [eV]) ho2 (by rw [hn]; rfl)
end
end Go.Km
namespace Go.Km
open Go Go.RowKit
attribute [local irreducible] vc rO_ runG runS runD
theorem i64_and1 (n : Int) : bits .and .i64 n 1 = n % 2 := by
 have h1 : (BitVec.ofInt 64 1).toNat = 2 ^ 1 - 1 := by decide
 have key : (BitVec.ofInt 64 n &&& BitVec.ofInt 64 1).toNat = (n % ((2 ^ 64 : Nat) : Int)).toNat % 2 ^ 1 := by
  rw [BitVec.toNat_and, BitVec.toNat_ofInt, h1, Nat.and_two_pow_sub_one_eq_mod]
 show IntKind.i64.wrap ((BitVec.ofInt 64 n &&& BitVec.ofInt 64 1).toNat : Nat) = n % 2
 rw [key, IntKind.wrap_i64]
 omega
section
variable {P : Program} {a : Act} {w : World} {r : List Oper} {Q : Exit → Act → World → Prop} {U : Nat}
theorem r_and1 {d xt x c yt ty p af g} {n : Int} (hx : a.eval x = .int .i64 n) (hc : c = .const (.int .i64 1)) (h : rO_ P Q r (a.put (some d) (.int .i64 (n % 2))) w) : rO_ P Q (⟨some d, .binOp .and xt x c yt, ty, p, af, g⟩ :: r) a w := by
 subst hc
 refine r_bits (v := .int .i64 (n % 2)) hx rfl (by simp) ?_ h
 show (pure (Value.int .i64 (bits .and .i64 n 1)) : Sem Value) = _
 rw [i64_and1]
theorem r_make16 {d t ty p af g e} (hB : rowB P t e 1 = true) (hz : zeroT P e = some (.int .u8 0)) (hU : U ≤ w.heap.size)
  (h : ∀ w', w'.ownsRow U e 1 (.slice (some ⟨w.heap.size, 0, none⟩) 16 16) 16 (List.replicate 16 (.int .u8 0)) → Below U w w' → U ≤ w.heap.size → rO_ P Q r (a.put (some d) (.slice (some ⟨w.heap.size, 0, none⟩) 16 16)) w') :
  rO_ P Q (⟨some d, .makeSlice t (.const (.int .i64 16)) (.const (.int .i64 16)), ty, p, af, g⟩ :: r) a w := by
 refine st ?_
 obtain ⟨hu, i, z, hi, hs, hs0, hzz, hzs, hby⟩ := rowB_inv hB
 have hz0 : z = .int .u8 0 := by
  simp only [zeroT, hi, Option.bind_some, hzz, Option.some.injEq] at hz
  exact hz
 obtain ⟨w', hr, hown, hg⟩ := run_makeSlice_full (P := P) w U t e i z 1 hu hi hzz hs .i64 .i64 16 (by decide) (by omega) (by decide) hU
 subst hz0
 have e1 : (madeCells (Value.int .u8 0).cells (16 * 1)).toList = List.replicate 16 (.int .u8 0) := toList_madeCells_one _ _
 rw [e1] at hown
 have hr' : (Instr.makeSlice t (.int .i64 16) (.int .i64 16)).run P w = .ok (.slice (some ⟨w.heap.size, 0, none⟩) 16 16) w' := hr
 simp only [Oper.wp, execOp, eval_const, Sem.run_bind, hr', Sem.run_pure, Result.andThen_ok, Oper.upon_value]
 exact h w' hown ⟨hg.os, hg.tape, hg.output, hg.size, fun k hk => hg.block k (by omega) (by simp)⟩ hU
theorem r_copy16 {d x y t ty p af g e gb sv} {s : List UInt8} (hB : rowB P t e 1 = true) (hx : a.eval x = .slice (some ⟨gb, 0, none⟩) 16 16) (hy : a.eval y = sv)
  (hown : w.ownsRow U e 1 (.slice (some ⟨gb, 0, none⟩) 16 16) 16 (List.replicate 16 (.int .u8 0))) (ho : OctsB w U sv s) (hgU : U ≤ gb)
  (h : ∀ w', w'.ownsRow U e 1 (.slice (some ⟨gb, 0, none⟩) 16 16) 16 ((s.take 16 ++ List.replicate (16 - s.length) 0).map bv) → Below U w w' → rO_ P Q r (a.put (some d) (.int .i64 (min s.length 16 : Nat))) w') :
  rO_ P Q (⟨some d, .call { callee := .builtin .copy, args := #[x, y], argTypes := #[t, t] }, ty, p, af, g⟩ :: r) a w := by
 refine st ?_
 obtain ⟨hu, i, z, hi, hs, hs0, hzz, hzs, hby⟩ := rowB_inv hB
 have hsz : (P.info? e).map (·.size) = some 1 := by simp [hi, hs]
 have fin : ∀ (n : Nat) (w' : World), (Builtin.copy_ #[t, t] ty #[.slice (some ⟨gb, 0, none⟩) 16 16, sv]).run P w = .ok (goInt n) w' → n = min s.length 16 → w'.ownsRow U e 1 (.slice (some ⟨gb, 0, none⟩) 16 16) 16 ((s.take 16 ++ List.replicate (16 - s.length) 0).map bv) → Below U w w' →
   Oper.wp P ⟨some d, .call { callee := .builtin .copy, args := #[x, y], argTypes := #[t, t] }, ty, p, af, g⟩ a w (rO_ P Q r) Q := by
  intro n w' hr hn h1 h2
  simp only [Oper.wp, execOp, resolve, invoke, builtin, Sem.run_bind, Sem.run_pure, Result.andThen_ok, List.map_toArray, List.map_cons, List.map_nil, hx, hy, hr, Oper.upon_value]
  subst hn
  exact h w' h1 h2
 rcases hown.2 with ⟨hh, _⟩ | ⟨g', cap, cur, hv, hbg, hg, hnc, hcm, hcs, htake⟩
 ·cases hh
 simp only [Value.slice.injEq, Option.some.injEq, Addr.mk.injEq, and_true, true_and] at hv
 obtain ⟨rfl, rfl⟩ := hv
 have hcur : cur.toList = List.replicate 16 (.int .u8 0) := by
  rw [← htake, List.take_of_length_le (by simp [hcs])]
 rcases ho with ⟨⟨ad, cap, rfl⟩, rfl⟩ | ⟨q, o, cap, rfl, hcap, hq, hc⟩
 ·refine fin 0 w (run_copy_none w t t ty e _ _ _ _ _ _ hu hsz rfl) (by simp) ?_ (Below.refl _ _)
  have : (([] : List UInt8).take 16 ++ List.replicate (16 - ([] : List UInt8).length) 0).map bv = List.replicate 16 (.int .u8 0) := by simp [bv]
  rw [this]
  exact hown
 ·have hnl : ((s.take 16).map bv).length = Nat.min s.length 16 := by simp [Nat.min_comm]
  have hr := run_copy_row (P := P) w t t ty e gb 0 16 16 ⟨q, o, none⟩ s.length cap cur e ((s.take 16).map bv) hu hsz hg hnl (by
   intro j v hv
   rw [Addr.add_lit]
   refine hc j v ?_
   rw [List.map_take, List.getElem?_take] at hv
   split at hv
   ·exact hv
   ·cases hv) (by rw [hnl, hcs]; show 0 + min s.length 16 ≤ 16 * 1; omega) (bv_one _)
  refine fin _ _ hr hnl ?_ ?_
  ·refine ⟨by simp; omega, .inr ⟨gb, 16, _, rfl, hbg, setRow_heap w gb cur _ e _ hg, by omega, hcm, ?_, ?_⟩⟩
   ·simp [hcs]; omega
   ·rw [hcur]
    simp only [List.take_zero, List.nil_append, Nat.zero_add]
    rw [List.take_of_length_le (by simp; omega)]
    rw [List.map_append, List.drop_replicate]
    congr 1
    rw [List.map_replicate]
    congr 1
    ·simp; omega
  ·refine ⟨rfl, rfl, rfl, by simp, fun k hk => setRow_other w gb k _ (by omega)⟩
end
end Go.Km
namespace Go.Km
open Go Go.RowKit
attribute [local irreducible] vc rO_ runG runS runD
section
variable {P : Program} {E : Env} {w : World} {U : Nat}
theorem own_mono {W : World} {B B' : Nat} {e : TypeId} {s : Nat} {v : Value} {n : Nat} {xs : List Value} (h : W.ownsRow B e s v n xs) (hB : B' ≤ B) : W.ownsRow B' e s v n xs := by
 refine ⟨h.1, ?_⟩
 rcases h.2 with h | ⟨g, cap, cur, h1, h2, h3⟩
 ·exact .inl h
 ·exact .inr ⟨g, cap, cur, h1, Nat.le_trans hB h2, h3⟩
set_option maxHeartbeats 1000000 in
theorem s_value (H : SEnv P E) (HT : STexts P E) (hz8 : zeroT P E.tU8 = some (.int .u8 0)) {kind : Nat} {ver : Int} {nl fx : Bool} {fs : SFs} {sv : Value} {t : Tr} {ts : List Value} (hk : kind ≤ 10) (hp : kind = 10 → PartC P E ver fx fs)
  (hU : U ≤ w.heap.size) (hsf : kind = 10 → SlF w U sv fs) (hr : t.Rep w U ts) (hbig : (valW kind (fs.part ver fx) nl fx t).length ≤ big) :
  Gives P E E.sValue U #[.int .i64 kind, sv, .bool nl, .int .i64 ver, .bool fx, .agg ts.toArray] (valW kind (fs.part ver fx) nl fx t) w := by
 refine CallsV.enter HT.value (by simp) ?_
 intro a hsz hdf harg
 have e0 := harg 0 (.int .i64 kind) (by simp)
 have e1 := harg 1 sv (by simp)
 have e2 := harg 2 (.bool nl) (by simp)
 have e3 := harg 3 (.int .i64 ver) (by simp)
 have e4 := harg 4 (.bool fx) (by simp)
 have e5 := harg 5 (.agg ts.toArray) (by simp)
 cases t with
 | mk n s tnl l u =>
 have hr0 := hr
 obtain ⟨s1, lv, uv, rfl, ho, hu, hl⟩ := hr
 unfold c_sValue
 refine vX ?_
 refine r_box (v := .agg [Value.int .i64 n, s1, .bool tnl, lv, uv].toArray) (by simp (disch := (try simp only [sP]); omega) only [eV, e5]) ?_
 refine rA (dn ?_)
 generalize hw1 : w.alloc (.cells (Value.agg [Value.int .i64 n, s1, .bool tnl, lv, uv].toArray).cells E.tT) = W
 have hb : Below U w W := by rw [← hw1]; exact (Below.refl U w).alloc (o := .cells _ _) hU
 have c0 : W.cell? ⟨w.heap.size, 0, none⟩ = some (.int .i64 n) := by rw [← hw1]; exact cells_new w _ E.tT (i := 0) rfl
 have c1 : W.cell? ⟨w.heap.size, 1, none⟩ = some s1 := by rw [← hw1]; exact cells_new w _ E.tT (i := 1) rfl
 have call : Cells W w.heap.size 0 [.int .i64 n, s1, .bool tnl, lv, uv] := by
  intro i v hv
  rw [← hw1, Nat.zero_add]
  exact cells_new w _ E.tT (by simpa [Value.cells] using hv)
 have hUW : U ≤ W.heap.size := Nat.le_trans hU hb.size
 clear hw1
 refine vS (vX (rM (dn ?_)))
 generalize hA : ((a.put (some 11) _).put (some 12) _).put (some 16) _ = A
 have g0 : A.eval (.tmp 0) = .int .i64 kind := by rw [← hA]; simp (disch := (try simp only [sP]); omega) only [eV, e0]
 have g1 : A.eval (.tmp 1) = sv := by rw [← hA]; simp (disch := (try simp only [sP]); omega) only [eV, e1]
 have g2 : A.eval (.tmp 2) = .bool nl := by rw [← hA]; simp (disch := (try simp only [sP]); omega) only [eV, e2]
 have g3 : A.eval (.tmp 3) = .int .i64 ver := by rw [← hA]; simp (disch := (try simp only [sP]); omega) only [eV, e3]
 have g4 : A.eval (.tmp 4) = .bool fx := by rw [← hA]; simp (disch := (try simp only [sP]); omega) only [eV, e4]
 have g11 : A.eval (.tmp 11) = .pointer (some ⟨w.heap.size, 0, none⟩) := by rw [← hA]; simp (disch := (try simp only [sP]); omega) only [eV]
 have g16 : A.eval (.tmp 16) = .int .i64 kind := by rw [← hA]; simp (disch := (try simp only [sP]); omega) only [eV, e0]
 have hs : A.tmps.size = 70 := by rw [← hA]; simp only [zP]; exact hsz
 have hd : A.defers = [] := by rw [← hA]; simp only [dF]; exact hdf
 clear hA
 refine vS (vc_block ?_)
 refine vX ?_
 refine r_eql (k := .i64) (m := (kind : Int)) (n := 0) (by simp (disch := (try simp only [sP]); omega) only [eV, g16]) rfl ?_
 refine rA (dn ?_)
 refine vS (vC (t := ((kind : Int) == 0)) (by (try simp (disch := (try simp only [sP]); omega) only [eV]) <;> (first | rfl | assumption)) ?_ ?_)
 ·intro hk0
  have hk0' : kind = 0 := by simp only [beq_iff_eq] at hk0; omega
  subst hk0'
  refine vX ?_
  refine rF (b := w.heap.size) (o := 0) (by simp (disch := (try simp only [sP]); omega) only [eV, g11]) (offs_inv H.fTree (by decide)) ?_
  refine rL (b := w.heap.size) (o := 0) (by (try simp (disch := (try simp only [sP]); omega) only [eV]) <;> (first | rfl | assumption)) H.oI64 c0 ?_
  refine r_and1 (n := n) (by simp (disch := (try simp only [sP]); omega) only [eV]) rfl ?_
  refine r_conv (k := .i64) (k' := .u8) (m := n % 2) H.i64 H.u8 (by simp (disch := (try simp only [sP]); omega) only [eV]) ?_
  have hw8 : IntKind.u8.wrap (n % 2) = n % 2 := by rw [wrap8]; omega
  rw [hw8]
  refine r_buildSlice (s := 1) (vs := [.int .u8 (n % 2)]) H.row ?_ rfl (by intro v hv; simp only [List.mem_cons, List.not_mem_nil, or_false] at hv; subst hv; rfl) (by omega) (by omega) ?_
  ·simp only [lM]
   simp (disch := (try simp only [sP]); omega) only [eV]
   rfl
  refine rA (dn (vS (vT ?_)))
  refine ⟨by simp only [dF]; exact hd, _, rO (by (try simp (disch := (try simp only [sP]); omega) only [eV]) <;> (first | rfl | assumption)), ?_, hb.trans ((Below.refl U W).alloc (o := .cells _ _) hUW)⟩
  have hv : valW ((0 : Nat) : Int) (fs.part ver fx) nl fx (Tr.mk n s tnl l u) = [o8 (n % 2)] := by simp [valW]
  rw [hv]
  have := World.ownsRow_lit W (base := U) (e := E.tU8) (size := 1) #[.int .u8 (n % 2)] 1 hUW (by decide) rfl
  have hbv : [o8 (n % 2)].map bv = [Value.int .u8 (n % 2)] := by
   simp only [List.map_cons, List.map_nil]
   rw [bv_o8 (by omega) (by omega)]
  rw [hbv]
  exact this
 intro hk0
 have hk0' : kind ≠ 0 := by simp only [beq_eq_false_iff_ne, ne_eq] at hk0; omega
 refine vX ?_
 refine r_eql (k := .i64) (m := (kind : Int)) (n := 7) (by simp (disch := (try simp only [sP]); omega) only [eV, g16]) rfl ?_
 refine rA (dn ?_)
 refine vS (vC (t := ((kind : Int) == 7)) (by (try simp (disch := (try simp only [sP]); omega) only [eV]) <;> (first | rfl | assumption)) ?_ ?_)
 ·intro hk7
  have hk7' : kind = 7 := by simp only [beq_iff_eq] at hk7; omega
  subst hk7'
  have hv : valW ((7 : Nat) : Int) (fs.part ver fx) nl fx (Tr.mk n s tnl l u) = s.take 16 ++ List.replicate (16 - s.length) 0 := by simp [valW]
  rw [hv]
  refine vX ?_
  have hlt : w.heap.size < W.heap.size := lt_of_cell c0
  refine r_make16 (U := W.heap.size) H.row hz8 (Nat.le_refl _) ?_
  intro w2 hown2 hb2' _
  have hb2 : Below U W w2 := hb2'.mono hUW
  refine rA (dn (vX (rM ?_)))
  refine rF (b := w.heap.size) (o := 0) (by simp (disch := (try simp only [sP]); omega) only [eV, g11]) (offs_inv H.fTree (by decide)) ?_
  refine rL (b := w.heap.size) (o := 0 + 1) (by simp (disch := (try simp only [sP]); omega) only [eV]) H.oBytes (v := s1) (by rw [hb2'.cell (p := ⟨w.heap.size, 0 + 1, none⟩) hlt]; simpa using c1) ?_
  refine r_copy16 (U := W.heap.size) (gb := W.heap.size) (sv := s1) (s := s) H.row (by simp (disch := (try simp only [sP]); omega) only [eV]) (by simp (disch := (try simp only [sP]); omega) only [eV]) hown2 ((ho.below (hb.trans hb2)).mono hUW) (Nat.le_refl _) ?_
  intro w3 hown3' hb3'
  have hb3 : Below U w2 w3 := hb3'.mono hUW
  have hown3 := own_mono hown3' hUW
  refine dn (vX (rM (rA (dn (vS (vT ?_))))))
  refine ⟨by simp only [dF]; exact hd, .slice (some ⟨W.heap.size, 0, none⟩) 16 16, rO (by simp (disch := (try simp only [sP]); omega) only [eV]), ?_, (hb.trans hb2).trans hb3⟩
  rw [show (List.take 16 s ++ List.replicate (16 - s.length) (0 : UInt8)).length = 16 by simp; omega]
  exact hown3
 intro hk7
 have hk7' : kind ≠ 7 := by simp only [beq_eq_false_iff_ne, ne_eq] at hk7; omega
 refine vX ?_
 refine r_eql (k := .i64) (m := (kind : Int)) (n := 8) (by simp (disch := (try simp only [sP]); omega) only [eV, g16]) rfl ?_
 refine rA (dn ?_)
 refine vS (vC (t := ((kind : Int) == 8)) (by (try simp (disch := (try simp only [sP]); omega) only [eV]) <;> (first | rfl | assumption)) ?_ ?_)
 ·intro hk8
  have hk8' : kind = 8 := by simp only [beq_iff_eq] at hk8; omega
  subst hk8'
  have hv : valW ((8 : Nat) : Int) (fs.part ver fx) nl fx (Tr.mk n s tnl l u) = cnt fx nl (if nl then [] else s.take 32767 : List UInt8).length 2 ++ (if nl then [] else s.take 32767) := by simp [valW]
  rw [hv] at hbig ⊢
  exact s_text (w := w) (U := U) (X := 14) (t := 34) (size := 2) (sv := s1) (s := s) H HT (.inl rfl) (by decide) (by decide) (by decide) (by simp only [zP]; exact hs) (by simp only [dF]; exact hd) (by simp (disch := (try simp only [sP]); omega) only [eV, g2]) (by simp (disch := (try simp only [sP]); omega) only [eV, g4]) (by simp (disch := (try simp only [sP]); omega) only [eV, g11]) c1 ho hb hU hbig (fun _ _ h => h)
 intro hk8
 have hk8' : kind ≠ 8 := by simp only [beq_eq_false_iff_ne, ne_eq] at hk8; omega
 refine vX ?_
 refine r_eql (k := .i64) (m := (kind : Int)) (n := 9) (by simp (disch := (try simp only [sP]); omega) only [eV, g16]) rfl ?_
 refine rA (dn ?_)
 refine vS (vC (t := ((kind : Int) == 9)) (by (try simp (disch := (try simp only [sP]); omega) only [eV]) <;> (first | rfl | assumption)) ?_ ?_)
 ·intro hk9
  have hk9' : kind = 9 := by simp only [beq_iff_eq] at hk9; omega
  subst hk9'
  have hv : valW ((9 : Nat) : Int) (fs.part ver fx) nl fx (Tr.mk n s tnl l u) = cnt fx nl (if nl then [] else s.take 32767 : List UInt8).length 4 ++ (if nl then [] else s.take 32767) := by simp [valW]
  rw [hv] at hbig ⊢
  exact s_text (w := w) (U := U) (X := 15) (t := 47) (size := 4) (sv := s1) (s := s) H HT (.inr rfl) (by decide) (by decide) (by decide) (by simp only [zP]; exact hs) (by simp only [dF]; exact hd) (by simp (disch := (try simp only [sP]); omega) only [eV, g2]) (by simp (disch := (try simp only [sP]); omega) only [eV, g4]) (by simp (disch := (try simp only [sP]); omega) only [eV, g11]) c1 ho hb hU hbig (fun _ _ h => h)
 intro hk9
 have hk9' : kind ≠ 9 := by simp only [beq_eq_false_iff_ne, ne_eq] at hk9; omega
 refine vX ?_
 refine r_eql (k := .i64) (m := (kind : Int)) (n := 10) (by simp (disch := (try simp only [sP]); omega) only [eV, g16]) rfl ?_
 refine rA (dn ?_)
 refine vS (vC (t := ((kind : Int) == 10)) (by (try simp (disch := (try simp only [sP]); omega) only [eV]) <;> (first | rfl | assumption)) ?_ ?_)
 ·intro hka
  have hka' : kind = 10 := by simp only [beq_iff_eq] at hka; omega
  subst hka'
  have hv : valW ((10 : Nat) : Int) (fs.part ver fx) nl fx (Tr.mk n s tnl l u) = fs.part ver fx (Tr.mk n s tnl l u) := by simp [valW]
  rw [hv] at hbig ⊢
  refine vX (rM (rM (rM ?_)))
  refine r_loadAgg (b := w.heap.size) (o := 0) (cs := [.int .i64 n, s1, .bool tnl, lv, uv]) (by simp (disch := (try simp only [sP]); omega) only [eV, g11]) H.aTree call ?_
  refine r_call' (args := #[sv, .int .i64 ver, .bool fx, .agg [Value.int .i64 n, s1, .bool tnl, lv, uv].toArray]) ?_ (hp rfl U W sv (Tr.mk n s tnl l u) _ hUW ((hsf rfl).below hb) (hr0.below hb) hbig) ?_
  ·simp only [lM]
   simp (disch := (try simp only [sP]); omega) only [eV, g1, g3, g4]
  rintro v w2 ⟨h1, h2⟩
  refine rA (dn (vS (vT ?_)))
  exact ⟨by simp only [dF]; exact hd, v, rO (by simp (disch := (try simp only [sP]); omega) only [eV]), h1, hb.trans h2⟩
 intro hka
 have hka' : kind ≠ 10 := by simp only [beq_eq_false_iff_ne, ne_eq] at hka; omega
 have hv : valW (kind : Int) (fs.part ver fx) nl fx (Tr.mk n s tnl l u) = be (widthOf kind) n := by
  simp [valW, hk0', show ¬ (kind : Int) = 0 by omega, show ¬ (kind : Int) = 7 by omega, show ¬ (kind : Int) = 8 by omega, show ¬ (kind : Int) = 9 by omega, show ¬ (kind : Int) = 10 by omega]
 rw [hv] at hbig ⊢
 refine vK ?_
 generalize hA2 : ((((((((((A.put (some 18) _).put (some 17) _).put (some 25) _).put (some 24) _).put (some 33) _).put (some 32) _).put (some 46) _).put (some 45) _).put (some 59) _).put (some 58) _) = B
 have b0 : B.eval (.tmp 0) = .int .i64 kind := by rw [← hA2]; simp (disch := (try simp only [sP]); omega) only [eV, g0]
 have b11 : B.eval (.tmp 11) = .pointer (some ⟨w.heap.size, 0, none⟩) := by rw [← hA2]; simp (disch := (try simp only [sP]); omega) only [eV, g11]
 have hsB : B.tmps.size = 70 := by rw [← hA2]; simp only [zP]; exact hs
 have hdB : B.defers = [] := by rw [← hA2]; simp only [dF]; exact hd
 clear hA2
 simp only [Exit.then, Exit.inBlock]
 repeat (refine vN ?_)
 have hlt : w.heap.size < W.heap.size := lt_of_cell c0
 have hw8 : widthOf kind ≤ 8 := by unfold widthOf; repeat' (first | omega | split)
 refine vS (vc_rgd [(0, true), (1, true), (2, true), (3, false), (4, false), (5, true)] (fun W' => W'.cell? ⟨w.heap.size, 0, none⟩ = some (.int .i64 n)) HT.mixed (by kernel_rfl) rfl (by kernel_rfl) (fun _ _ _ _ h => False.elim h) ?_)
 have hS : ({ W with drawn := W.drawn + 1 } : World).cell? ⟨w.heap.size, 0, none⟩ = some (.int .i64 n) := c0
 have hbd : Below W.heap.size W { W with drawn := W.drawn + 1 } := ⟨rfl, rfl, rfl, Nat.le_refl _, fun _ _ => rfl⟩
 refine dP rfl rfl rfl (wN rfl) (by simp only [zP, hsB]; decide) hS (fun w' hS' => rF (b := w.heap.size) (o := 0) (by simp (disch := (try simp only [sP]); omega) only [eV, b11]) (offs_inv H.fTree (by decide)) (dn ⟨rfl, rfl, rfl⟩)) ?_
 refine dP rfl rfl rfl (wN rfl) (by simp only [zP, hsB]; decide) hS (fun w' hS' => rL (b := w.heap.size) (o := 0) (v := .int .i64 n) (by (try simp (disch := (try simp only [sP]); omega) only [eV]) <;> (first | rfl | assumption)) H.oI64 hS' (dn ⟨rfl, rfl, rfl⟩)) ?_
 refine dP rfl rfl rfl (wN rfl) (by simp only [zP, hsB]; decide) hS (fun w' hS' => rM (dn ⟨rfl, rfl, rfl⟩)) ?_
 refine d_sole rfl (wN rfl) ?_
 refine r_call' (args := #[.int .i64 kind]) ?_ (s_width HT.width (by omega)) ?_
 ·simp only [lM]
  simp (disch := (try simp only [sP]); omega) only [eV, b0]
 rintro v w2 ⟨rfl, rfl⟩
 refine dn (d_then hS ?_)
 refine d_sole rfl (wN rfl) ?_
 refine r_call' (args := #[.int .i64 n, .int .i64 (widthOf kind : Nat)]) ?_ (s_fixed (U := W.heap.size) HT.fixed H.row H.u8 H.i64 H.int hw8 (Nat.le_refl _)) ?_
 ·simp only [lM]
  simp (disch := (try simp only [sP]); omega) only [eV]
 rintro v w3 ⟨h1, h2⟩
 have hS3 : w3.cell? ⟨w.heap.size, 0, none⟩ = some (.int .i64 n) := by rw [(hbd.trans h2).cell (p := ⟨w.heap.size, 0, none⟩) hlt]; exact c0
 refine dn (d_then hS3 ?_)
 refine dP rfl rfl rfl (wN rfl) (by simp only [zP, hsB]; decide) hS3 (fun w' hS' => rA (dn ⟨rfl, rfl, rfl⟩)) ?_
 refine d_nil ?_
 refine vS (vT ?_)
 exact ⟨by simp only [dF]; exact hdB, v, rO (by simp (disch := (try simp only [sP]); omega) only [eV]), own_mono h1 hUW, hb.trans ((hbd.trans h2).mono hUW)⟩
end
end Go.Km
namespace Go.Km
open Go Go.RowKit
attribute [local irreducible] vc rO_ runG runS runD
theorem own_below {w w' : World} {B C : Nat} {e : TypeId} {s : Nat} {v : Value} {n : Nat} {xs : List Value} (h : w.ownsRow B e s v n xs) (hb : Below C w w') (hC : C = w.heap.size := by rfl) : w'.ownsRow B e s v n xs := by
 subst hC
 refine ⟨h.1, ?_⟩
 rcases h.2 with h | ⟨g, cap, cur, h1, h2, h3, h4⟩
 ·exact .inl h
 ·have hg : g < w.heap.size := (Array.getElem?_eq_some_iff.1 h3).1
  exact .inr ⟨g, cap, cur, h1, h2, by rw [hb.block g hg]; exact h3, h4⟩
def FieldC (P : Program) (E : Env) (ver : Int) (fx : Bool) (f : SF) : Prop :=
 ∀ (U : Nat) (w : World) (cs : List Value) (t : Tr) (ts : List Value), U ≤ w.heap.size → f.Rep w U cs → t.Rep w U ts → (f.wr ver fx t).length ≤ big →
  Gives P E E.sField U #[.agg cs.toArray, .int .i64 ver, .bool fx, .agg ts.toArray] (f.wr ver fx t) w
def SF.kindOk : SF → Bool
 | .mk kind _ _ _ _ _ el _ => decide (0 ≤ kind) && decide (kind ≤ 11) && decide (0 ≤ el) && decide (el ≤ 10)
def SF.sub : SF → SFs
 | .mk _ _ _ _ _ _ _ sub => sub
structure FFr (P : Program) (E : Env) (w : World) (U : Nat) (ver : Int) (fx nl : Bool) (cs ts : List Value) (b : Nat) (A : Act) (W : World) : Prop where
 size : A.tmps.size = 76
 defers : A.defers = []
 s1 : A.eval (.tmp 1) = .int .i64 ver
 s2 : A.eval (.tmp 2) = .bool fx
 s4 : A.eval (.tmp 4) = .pointer (some ⟨b, 0, none⟩)
 s7 : A.eval (.tmp 7) = .pointer (some ⟨b + 1, 0, none⟩)
 s9 : A.eval (.tmp 9) = .bool nl
 below : Below U w W
 bU : U ≤ b
 bW : b + 1 < W.heap.size
 cf : Cells W b 0 cs
 ct : Cells W (b + 1) 0 ts
theorem FFr.put {P : Program} {E : Env} {w : World} {U : Nat} {ver : Int} {fx nl : Bool} {cs ts : List Value} {b : Nat} {A : Act} {W : World} (h : FFr P E w U ver fx nl cs ts b A W) {d : Nat} (v : Value) (hd : 9 < d ∨ d = 8) : FFr P E w U ver fx nl cs ts b (A.put (some d) v) W :=
  ⟨by rw [zP]; exact h.size, by rw [dF]; exact h.defers, by rw [eval_put_ne _ _ _ _ (by omega)]; exact h.s1, by rw [eval_put_ne _ _ _ _ (by omega)]; exact h.s2, by rw [eval_put_ne _ _ _ _ (by omega)]; exact h.s4,
   by rw [eval_put_ne _ _ _ _ (by omega)]; exact h.s7, by rw [eval_put_ne _ _ _ _ (by omega)]; exact h.s9, h.below, h.bU, h.bW, h.cf, h.ct⟩
theorem FFr.world {P : Program} {E : Env} {w : World} {U : Nat} {ver : Int} {fx nl : Bool} {cs ts : List Value} {b : Nat} {A : Act} {W W' : World} (h : FFr P E w U ver fx nl cs ts b A W) {B : Nat} (hb : Below B W W') (hB : b + 2 ≤ B) : FFr P E w U ver fx nl cs ts b A W' :=
 ⟨h.size, h.defers, h.s1, h.s2, h.s4, h.s7, h.s9, h.below.trans (hb.mono (by have := h.bU; omega)), h.bU, Nat.lt_of_lt_of_le h.bW hb.size, h.cf.below hb (by omega), h.ct.below hb (by omega)⟩
section
variable {P : Program} {E : Env} {w : World} {U : Nat}
theorem s_fieldV (H : SEnv P E) (HT : STexts P E) (hz8 : zeroT P E.tU8 = some (.int .u8 0)) {kind : Nat} {fr to nul tag df el ver : Int} {sub : SFs} {nl fx : Bool} {cs ts : List Value} {t : Tr} {b : Nat} {A : Act} {W : World} {Q : Exit → Act → World → Prop}
  (hf : FFr P E w U ver fx nl cs ts b A W) (hr : (SF.mk kind fr to nul tag df el sub).Rep w U cs) (hrt : t.Rep w U ts) (hU : U ≤ w.heap.size) (hk : kind ≤ 10) (hp : kind = 10 → PartC P E ver fx sub)
  (hbig : (valW kind (sub.part ver fx) nl fx t).length ≤ big)
  (hQ : ∀ a' w', Out P #[.tmp 8] (fun v w' => w'.ownsRow U E.tU8 1 v (valW kind (sub.part ver fx) nl fx t).length ((valW kind (sub.part ver fx) nl fx t).map bv) ∧ Below U w w') .ret a' w' → Q .ret a' w') :
  vc P (sq [(rg [(oQ 67 (.fieldAddr E.tFld (.tmp 4) 0) 0),
   (oQ 68 (.load E.tI (.tmp 67)) E.tI),
   (oQ 69 (.fieldAddr E.tFld (.tmp 4) 7) 0),
   (oQ 70 (.load E.tFlds (.tmp 69)) E.tFlds),
   (oQ 71 (.move (.tmp 9)) E.tO),
   (oQ 72 (.move (.tmp 1)) E.tI),
   (oQ 73 (.move (.tmp 2)) E.tO),
   (oQ 74 (.load E.tT (.tmp 7)) E.tT),
   (oQ 75 (.call { callee := .value (.func E.sValue), args := #[(.tmp 68), (.tmp 70), (.tmp 71), (.tmp 72), (.tmp 73), (.tmp 74)], argTypes := #[E.tI, E.tFlds, E.tO, E.tI, E.tO, E.tT] }) E.tB),
   (oQ 8 (.assign (.tmp 75)) E.tB)]), .ret]) Q A W := by
 obtain ⟨sv, rfl, hsub⟩ := hr
 have hs := hf.size
 have c0 := hf.cf 0 _ rfl
 have c7 := hf.cf 7 _ rfl
 refine vX ?_
 refine rF (b := b) (o := 0) (by simp (disch := (try simp only [sP]); omega) only [eV, hf.s4]) (offs_inv H.fFld (by decide)) ?_
 refine rL (b := b) (o := 0 + 0) (by simp (disch := (try simp only [sP]); omega) only [eV]) H.oInt c0 ?_
 refine rF (b := b) (o := 0) (by simp (disch := (try simp only [sP]); omega) only [eV, hf.s4]) (offs_inv H.fFld (by decide)) ?_
 refine rL (b := b) (o := 0 + 7) (by simp (disch := (try simp only [sP]); omega) only [eV]) H.oFlds c7 ?_
 refine rM (rM (rM ?_))
 refine r_loadAgg (b := b + 1) (o := 0) (cs := ts) (by simp (disch := (try simp only [sP]); omega) only [eV, hf.s7]) (by rw [hrt.len]; exact H.aTree) hf.ct ?_
 refine r_call' (args := #[.int .i64 kind, sv, .bool nl, .int .i64 ver, .bool fx, .agg ts.toArray]) ?_ (s_value (U := U) H HT hz8 hk hp (Nat.le_trans hU hf.below.size) (fun _ => SlF.below hsub hf.below) (hrt.below hf.below) hbig) ?_
 ·simp only [lM]
  simp (disch := (try simp only [sP]); omega) only [eV, hf.s1, hf.s2, hf.s9]
 rintro v w2 ⟨h1, h2⟩
 refine rA (dn (vS (vT ?_)))
 exact hQ _ _ ⟨by simp only [dF]; exact hf.defers, v, rO (by simp (disch := (try simp only [sP]); omega) only [eV]), h1, hf.below.trans h2⟩
theorem s_fieldN (H : SEnv P E) (HT : STexts P E) {kind fr to nul tag df el ver : Int} {sub : SFs} {nl fx : Bool} {cs ts : List Value} {t : Tr} {b : Nat} {A : Act} {W : World} {Q : Exit → Act → World → Prop}
    (hf : FFr P E w U ver fx nl cs ts b A W) (hr : (SF.mk kind fr to nul tag df el sub).Rep w U cs) (hrt : t.Rep w U ts) (hU : U ≤ w.heap.size) (hp : PartC P E ver fx sub)
    (hbig : (if nl then be 1 (-1) else be 1 1 ++ sub.part ver fx t).length ≤ big) (hpanic : ∀ c a a' w, Q (.panic c) a w → Q (.panic c) a' w)
    (hQ : ∀ a' w', Out P #[.tmp 8] (fun v w' => w'.ownsRow U E.tU8 1 v (if nl then be 1 (-1) else be 1 1 ++ sub.part ver fx t).length ((if nl then be 1 (-1) else be 1 1 ++ sub.part ver fx t).map bv) ∧ Below U w w') .ret a' w' → Q .ret a' w') :
    vc P (sq [(sq [(rg [(oQ 57 (.move (.tmp 9)) E.tO)]),
            (.cond (.tmp 57)
              (sq [(rg [(oQ 58 (.call { callee := .value (.func E.sFixed), args := #[(.const (.int .i64 (-1))), (.const (.int .i64 1))], argTypes := #[E.tI64, E.tI] }) E.tB),
                  (oQ 8 (.assign (.tmp 58)) E.tB)]),
                .ret])
              .skip)]),
          (rgd [(oQ 59 (.call { callee := .value (.func E.sFixed), args := #[(.const (.int .i64 1)), (.const (.int .i64 1))], argTypes := #[E.tI64, E.tI] }) E.tB),
            (oQ 60 (.fieldAddr E.tFld (.tmp 4) 7) 0),
            ⟨some 61, .load E.tFlds (.tmp 60), E.tFlds, "", #[⟨1, .data⟩], none⟩,
            (oQ 62 (.move (.tmp 1)) E.tI),
            (oQ 63 (.move (.tmp 2)) E.tO),
            (oQ 64 (.load E.tT (.tmp 7)) E.tT),
            ⟨some 65, .call { callee := .value (.func E.sPart), args := #[(.tmp 61), (.tmp 62), (.tmp 63), (.tmp 64)], argTypes := #[E.tFlds, E.tI, E.tO, E.tT] }, E.tB, "", #[⟨2, .data⟩, ⟨3, .data⟩, ⟨4, .data⟩, ⟨5, .data⟩, ⟨0, .chain⟩], none⟩,
            ⟨some 66, .call { callee := .builtin .append, args := #[(.tmp 59), (.tmp 65)], argTypes := #[E.tB, E.tB] }, E.tB, "", #[⟨0, .data⟩, ⟨6, .data⟩, ⟨6, .chain⟩], none⟩,
            ⟨some 8, .assign (.tmp 66), E.tB, "", #[⟨7, .data⟩, ⟨7, .chain⟩, ⟨0, .phase⟩, ⟨1, .phase⟩, ⟨2, .phase⟩, ⟨3, .phase⟩, ⟨4, .phase⟩, ⟨5, .phase⟩, ⟨6, .phase⟩, ⟨7, .phase⟩], none⟩]),
          .ret]) Q A W := by
  obtain ⟨sv, rfl, hsub⟩ := hr
  have hs := hf.size
  have c7 := hf.cf 7 _ rfl
  have hUW : U ≤ W.heap.size := Nat.le_trans hU hf.below.size
  refine vS (vX (rM (dn ?_)))
  refine vS (vC (t := nl) (by simp (disch := (try simp only [sP]); omega) only [eV, hf.s9]) ?_ ?_)
  · intro hn
    subst hn
    refine vX ?_
    refine r_call' (args := #[.int .i64 (-1), .int .i64 ((1 : Nat) : Int)]) (by simp only [lM]; rfl) (s_fixed (U := U) HT.fixed H.row H.u8 H.i64 H.int (by decide) hUW) ?_
    rintro v w2 ⟨h1, h2⟩
    refine rA (dn (vS (vT ?_)))
    exact hQ _ _ ⟨by simp only [dF]; exact hf.defers, v, rO (by simp (disch := (try simp only [sP]); omega) only [eV]), h1, hf.below.trans h2⟩
  · intro hn
    subst hn
    refine vK (vN ?_)
    refine vS (vc_rgd [(1, true), (2, true), (3, true), (4, true), (5, true), (0, false), (6, false), (7, false), (8, true)] (fun W' => W'.cell? ⟨b, 7, none⟩ = some sv ∧ Cells W' (b + 1) 0 ts) HT.mixed (by kernel_rfl) rfl (by kernel_rfl) (fun c a a' w h => hpanic c a a' w h) ?_)
    generalize hB : A.put (some 57) (A.eval (.tmp 9)) = B
    have hfB := hf.put (d := 57) (A.eval (.tmp 9)) (by omega)
    rw [hB] at hfB
    have hsB := hfB.size
    clear hB
    have hbW := hf.bW
    have hbd : Below W.heap.size W { W with drawn := W.drawn + 1 } := ⟨rfl, rfl, rfl, Nat.le_refl _, fun _ _ => rfl⟩
    have mkS : ∀ w2, Below W.heap.size W w2 → w2.cell? ⟨b, 7, none⟩ = some sv ∧ Cells w2 (b + 1) 0 ts := fun w2 h2 =>
      ⟨by rw [h2.cell (p := ⟨b, 7, none⟩) (by show b < _; omega)]; simpa using c7, hf.ct.below h2 (by omega)⟩
    have hS := mkS _ hbd
    refine dP rfl rfl rfl (wN rfl) (by simp only [zP, hsB]; decide) hS (fun w' hS' => rF (b := b) (o := 0) (by simp (disch := (try simp only [sP]); omega) only [eV, hfB.s4]) (offs_inv H.fFld (by decide)) (dn ⟨rfl, rfl, rfl⟩)) ?_
    refine dP rfl rfl rfl (wN rfl) (by simp only [zP, hsB]; decide) hS (fun w' hS' => rL (b := b) (o := 7) (v := sv) (by (try simp (disch := (try simp only [sP]); omega) only [eV]) <;> (first | rfl | assumption)) H.oFlds hS'.1 (dn ⟨rfl, rfl, rfl⟩)) ?_
    refine dP rfl rfl rfl (wN rfl) (by simp only [zP, hsB]; decide) hS (fun w' hS' => rM (dn ⟨rfl, rfl, rfl⟩)) ?_
    refine dP rfl rfl rfl (wN rfl) (by simp only [zP, hsB]; decide) hS (fun w' hS' => rM (dn ⟨rfl, rfl, rfl⟩)) ?_
    refine dP rfl rfl rfl (wN rfl) (by simp only [zP, hsB]; decide) hS (fun w' hS' => r_loadAgg (b := b + 1) (o := 0) (cs := ts) (by simp (disch := (try simp only [sP]); omega) only [eV, hfB.s7]) (by rw [hrt.len]; exact H.aTree) hS'.2 (dn ⟨rfl, rfl, rfl⟩)) ?_
    refine d_sole rfl (wN rfl) ?_
    refine r_call' (args := #[.int .i64 1, .int .i64 ((1 : Nat) : Int)]) (by simp only [lM]; rfl) (s_fixed (U := W.heap.size) HT.fixed H.row H.u8 H.i64 H.int (by decide) (Nat.le_refl _)) ?_
    rintro v w2 ⟨h1, h2⟩
    have hW2 : Below W.heap.size W w2 := hbd.trans h2
    refine dn (d_then (mkS _ hW2) ?_)
    refine d_sole rfl (wN rfl) ?_
    have hblU : Below U w w2 := hf.below.trans (hW2.mono hUW)
    have hbg : (sub.part ver fx t).length ≤ big := by
      simp only [Bool.false_eq_true, if_false, List.length_append] at hbig
      omega
    refine r_call' (args := #[sv, .int .i64 ver, .bool fx, .agg ts.toArray]) ?_ (hp w2.heap.size w2 sv t ts (Nat.le_refl _) ((SlF.below hsub hblU).mono (Nat.le_trans hUW hW2.size)) ((hrt.below hblU).mono (Nat.le_trans hUW hW2.size)) hbg) ?_
    · simp only [lM]
      simp (disch := (try simp only [sP]); omega) only [eV, hfB.s1, hfB.s2]
    rintro v3 w3 ⟨h3, h4⟩
    have hW3 : Below W.heap.size W w3 := hW2.trans (h4.mono hW2.size)
    refine dn (d_then (mkS _ hW3) ?_)
    refine d_sole rfl (wN rfl) ?_
    have hown3 : w3.ownsRow W.heap.size E.tU8 1 v (be 1 1).length ((be 1 1).map bv) := by
      exact own_below h1 h4
    refine r_append (sz := 1) (U := W.heap.size) (m := (sub.part ver fx t).length) (news := (sub.part ver fx t).map bv) H.row (by simp (disch := (try simp only [sP]); omega) only [eV]) (by simp (disch := (try simp only [sP]); omega) only [eV]) hown3 hW3.size (src_own (rB H.row) h3 (bv_one _)) (by simp only [Bool.false_eq_true, if_false, List.length_append] at hbig; exact hbig) ?_
    intro v4 w4 h5 h6
    refine dn (d_then (mkS _ (hW3.trans h6)) ?_)
    refine dP rfl rfl rfl (wN rfl) (by simp only [zP, hsB]; decide) (mkS _ (hW3.trans h6)) (fun w' hS' => rA (dn ⟨rfl, rfl, rfl⟩)) ?_
    refine d_nil ?_
    refine vS (vT ?_)
    simp only [Bool.false_eq_true, if_false] at hQ
    rw [← List.length_append, ← List.map_append] at h5
    exact hQ _ _ ⟨by simp only [dF]; exact hfB.defers, v4, rO (by simp (disch := (try simp only [sP]); omega) only [eV]), own_mono h5 hUW, hf.below.trans ((hW3.trans h6).mono hUW)⟩
end
end Go.Km
namespace Go.Km
open Go Go.RowKit
attribute [local irreducible] vc rO_ runG runS runD
theorem Trs.toL_len : ∀ l : Trs, l.toL.length = l.len
 | .nil => rfl
 | .cons t r => by simp [Trs.toL, Trs.len, Trs.toL_len r]
theorem Trs.toL_get : ∀ (l : Trs) (i : Nat), l.toL[i]? = l.get i
 | .nil, i => by simp [Trs.toL, Trs.get]
 | .cons t r, 0 => rfl
 | .cons t r, i + 1 => by simpa [Trs.toL, Trs.get] using Trs.toL_get r i
theorem flat_succ {α β : Type} (l : List α) (f : α → List β) (i : Nat) (h : i < l.length) : ((l.take (i + 1)).map f).flatten = ((l.take i).map f).flatten ++ f l[i] := by
 rw [List.take_succ_eq_append_getElem h, List.map_append, List.flatten_append]
 simp
theorem flat_le {α β : Type} (l : List α) (f : α → List β) (i : Nat) : ((l.take i).map f).flatten.length ≤ ((l.map f).flatten).length := by
 have : l = l.take i ++ l.drop i := (List.take_append_drop i l).symm
 conv => rhs; rw [this]
 rw [List.map_append, List.flatten_append, List.length_append]
 omega
def ListB (w : World) (U : Nat) (v : Value) (L : List Tr) : Prop :=
 (NilS v ∧ L = []) ∨ ∃ q o cap, v = .slice (some ⟨q, o, none⟩) L.length cap ∧ q < U ∧ ∀ (i : Nat) (t : Tr), L[i]? = some t → ∃ c, Cells w q (o + i * 5) c ∧ t.Rep w U c
section
variable {P : Program} {E : Env} {w : World} {U : Nat}
theorem ListB.below {w w' : World} {v : Value} {L : List Tr} (h : ListB w U v L) (hw : Below U w w') : ListB w' U v L := by
 rcases h with h | ⟨q, o, cap, h1, h2, h3⟩
 ·exact .inl h
 ·refine .inr ⟨q, o, cap, h1, h2, fun i t ht => ?_⟩
  obtain ⟨c, h4, h5⟩ := h3 i t ht
  exact ⟨c, h4.below hw h2, h5.below hw⟩
theorem ListB.form {v : Value} {L : List Tr} (h : ListB w U v L) : ∃ ad cap, v = .slice ad L.length cap := by
 rcases h with ⟨⟨_, _, rfl⟩, rfl⟩ | ⟨q, o, cap, rfl, _⟩ <;> exact ⟨_, _, rfl⟩
set_option maxHeartbeats 1000000 in
theorem s_fieldL2 (H : SEnv P E) (HT : STexts P E) (hz8 : zeroT P E.tU8 = some (.int .u8 0)) {kind fr to nul tag df ver : Int} {el : Nat} {sub : SFs} {nl fx : Bool} {cs ts : List Value} {b : Nat} {A : Act} {W : World} {Q : Exit → Act → World → Prop} {xv : Value}
    (hf : FFr P E w U ver fx nl cs ts b A W) (hr : (SF.mk kind fr to nul tag df el sub).Rep w U cs) (hU : U ≤ w.heap.size) (hel : el ≤ 10) (hp : PartC P E ver fx sub) {L : List Tr} (hx : A.eval (.tmp 10) = xv) (hLB : ListB w U xv L) (hLn : L.length ≤ big)
    (hbig : (cnt fx nl L.length 4 ++ (L.map fun t => valW el (sub.part ver fx) false fx t).flatten).length ≤ big) (hpanic : ∀ c a a' w, Q (.panic c) a w → Q (.panic c) a' w)
    (hQ : ∀ a' w', Out P #[.tmp 8] (fun v w' => w'.ownsRow U E.tU8 1 v (cnt fx nl L.length 4 ++ (L.map fun t => valW el (sub.part ver fx) false fx t).flatten).length ((cnt fx nl L.length 4 ++ (L.map fun t => valW el (sub.part ver fx) false fx t).flatten).map bv) ∧ Below U w w') .ret a' w' → Q .ret a' w') :
    vc P (sq [(rg [(oQ 24 (.move (.tmp 2)) E.tO),
            (oQ 25 (.move (.tmp 9)) E.tO),
            (oQ 26 (.move (.tmp 10)) E.tS),
            (oQ 27 (.call { callee := .builtin .len, args := #[(.tmp 26)], argTypes := #[E.tS] }) E.tI),
            (oQ 28 (.call { callee := .value (.func E.sCounted), args := #[(.tmp 24), (.tmp 25), (.tmp 27), (.const (.int .i64 4))], argTypes := #[E.tO, E.tO, E.tI, E.tI] }) E.tB),
            (oQ 11 (.assign (.tmp 28)) E.tB)]),
          (sq [(rg [(oQ 29 (.move (.tmp 10)) E.tS),
              (oQ 30 (.call { callee := .builtin .len, args := #[(.tmp 29)], argTypes := #[E.tS] }) E.tI),
              (oQ 31 (.move (.const (.int .i64 0))) E.tI)]),
            (.block 0 (.loop (sq [(rg [(oQ 32 (.binOp .lss E.tI (.tmp 31) (.tmp 30) E.tI) 0)]),
                  (.cond (.tmp 32)
                    .skip
                    (.exit 0)),
                  (.block 1 (sq [(rg [(oQ 33 (.move (.tmp 31)) E.tI),
                        (oQ 12 (.assign (.tmp 33)) E.tI)]),
                      (rgd [(oQ 34 (.move (.tmp 11)) E.tB),
                        (oQ 35 (.fieldAddr E.tFld (.tmp 4) 6) 0),
                        ⟨some 36, .load E.tI (.tmp 35), E.tI, "", #[⟨1, .data⟩], none⟩,
                        (oQ 37 (.fieldAddr E.tFld (.tmp 4) 7) 0),
                        ⟨some 38, .load E.tFlds (.tmp 37), E.tFlds, "", #[⟨3, .data⟩], none⟩,
                        (oQ 39 (.move (.tmp 1)) E.tI),
                        (oQ 40 (.move (.tmp 2)) E.tO),
                        (oQ 41 (.move (.tmp 10)) E.tS),
                        (oQ 42 (.move (.tmp 12)) E.tI),
                        ⟨some 43, .indexAddr E.tS (.tmp 41) (.tmp 42), 0, "", #[⟨7, .data⟩, ⟨8, .data⟩], none⟩,
                        ⟨some 44, .load E.tT (.tmp 43), E.tT, "", #[⟨9, .data⟩], none⟩,
                        ⟨some 45, .call { callee := .value (.func E.sValue), args := #[(.tmp 36), (.tmp 38), (.const (.bool false)), (.tmp 39), (.tmp 40), (.tmp 44)], argTypes := #[E.tI, E.tFlds, E.tO, E.tI, E.tO, E.tT] }, E.tB, "", #[⟨2, .data⟩, ⟨4, .data⟩, ⟨5, .data⟩, ⟨6, .data⟩, ⟨10, .data⟩], none⟩,
                        ⟨some 46, .call { callee := .builtin .append, args := #[(.tmp 34), (.tmp 45)], argTypes := #[E.tB, E.tB] }, E.tB, "", #[⟨0, .data⟩, ⟨11, .data⟩, ⟨11, .chain⟩], none⟩,
                        ⟨some 11, .assign (.tmp 46), E.tB, "", #[⟨12, .data⟩, ⟨12, .chain⟩, ⟨0, .phase⟩, ⟨1, .phase⟩, ⟨2, .phase⟩, ⟨3, .phase⟩, ⟨4, .phase⟩, ⟨5, .phase⟩, ⟨6, .phase⟩, ⟨7, .phase⟩, ⟨8, .phase⟩, ⟨9, .phase⟩, ⟨10, .phase⟩, ⟨11, .phase⟩, ⟨12, .phase⟩], none⟩])])),
                  (rg [(oQ 47 (.binOp .add E.tI (.tmp 31) (.const (.int .i64 1)) E.tI) E.tI),
                    (oQ 31 (.move (.tmp 47)) E.tI)])])))]),
          (rg [(oQ 48 (.move (.tmp 11)) E.tB),
            (oQ 8 (.assign (.tmp 48)) E.tB)]),
          .ret]) Q A W := by
  obtain ⟨sv, hcs, hsub⟩ := hr
  have hUW : U ≤ W.heap.size := Nat.le_trans hU hf.below.size
  have hsl := rB H.rTrees
  obtain ⟨ad, cap, hxv⟩ := hLB.form
  have hs := hf.size
  have hbW := hf.bW
  have hbU := hf.bU
  refine vX (rM (rM (rM ?_)))
  refine r_len (ad := ad) (n := L.length) (c := cap) hsl (by simp (disch := (try simp only [sP]); omega) only [eV, hx, hxv]) ?_
  refine r_call' (args := #[.bool fx, .bool nl, .int .i64 (L.length : Int), .int .i64 ((4 : Nat) : Int)]) ?_ (s_counted (U := W.heap.size) HT.counted HT.uvar HT.fixed H.row H.u8 H.u64 H.i64 H.int hLn (by decide) (Nat.le_refl _)) ?_
  · simp only [lM]
    simp (disch := (try simp only [sP]); omega) only [eV, hf.s2, hf.s9]
    rfl
  rintro v W1 ⟨hown1, hb1⟩
  refine rA (dn (vS (vX (rM ?_))))
  refine r_len (ad := ad) (n := L.length) (c := cap) hsl (by simp (disch := (try simp only [sP]); omega) only [eV, hx, hxv]) ?_
  refine rM (dn ?_)
  have hf1 := hf.world hb1 (by omega)
  refine vS (vc_block (vc_count (fun m B V => m ≤ L.length ∧ FFr P E w U ver fx nl cs ts b B V ∧ B.eval (.tmp 10) = xv ∧ B.eval (.tmp 30) = .int .i64 (L.length : Int) ∧ B.eval (.tmp 31) = .int .i64 ((L.length - m : Nat) : Int) ∧ W.heap.size ≤ V.heap.size ∧ Below W.heap.size W V ∧
    ∃ xs : List UInt8, V.ownsRow W.heap.size E.tU8 1 (B.eval (.tmp 11)) xs.length (xs.map bv) ∧ xs = cnt fx nl L.length 4 ++ ((L.take (L.length - m)).map fun t => valW el (sub.part ver fx) false fx t).flatten) L.length ?_ ?_ ?_))
  · refine ⟨Nat.le_refl _, (((((((((hf1.put _ (by omega)).put _ (by omega)).put _ (by omega)).put _ (by omega)).put _ (by omega)).put _ (by omega)).put _ (by omega)).put _ (by omega)).put _ (by omega)), (by simp (disch := (try simp only [sP]); omega) only [eV, hx]), (by simp (disch := (try simp only [sP]); omega) only [eV]), ?_, hb1.size, hb1, cnt fx nl L.length 4, ?_, ?_⟩
    · simp (disch := (try simp only [sP]); omega) only [eV]
      simp
    · rw [show Act.eval _ (.tmp 11) = v by simp (disch := (try simp only [sP]); omega) only [eV]]
      exact hown1
    · simp
  · rintro m B V ⟨hm, hfB, g10, g30, g31, hWV, hbV, xs, hown, hxs⟩
    have hi : L.length - (m + 1) < L.length := by omega
    have him : L.length - m = (L.length - (m + 1)) + 1 := by omega
    rw [him]
    generalize hii : L.length - (m + 1) = i at *
    have hbVU : Below U w V := hf.below.trans (hbV.mono hUW)
    have hLV := hLB.below hbVU
    obtain ⟨q, o, cap', hxv', hq, hel'⟩ : ∃ q o cap, xv = .slice (some ⟨q, o, none⟩) L.length cap ∧ q < U ∧ ∀ (i : Nat) (t : Tr), L[i]? = some t → ∃ c, Cells V q (o + i * 5) c ∧ t.Rep V U c := by
      rcases hLV with ⟨_, rfl⟩ | ⟨q, o, cap, h1, h2, h3⟩
      · simp at hi
      · exact ⟨q, o, cap, h1, h2, h3⟩
    obtain ⟨c, hc, hrc⟩ := hel' i L[i] (List.getElem?_eq_getElem hi)
    have hsB := hfB.size
    have c6 : V.cell? ⟨b, 6, none⟩ = some (.int .i64 (el : Int)) := by have := hfB.cf 6 (.int .i64 (el : Int)) (by rw [hcs]; rfl); simpa using this
    have c7 : V.cell? ⟨b, 7, none⟩ = some sv := by have := hfB.cf 7 sv (by rw [hcs]; rfl); simpa using this
    refine vX ?_
    refine r_lss (k := .i64) (m := (i : Int)) (n := (L.length : Int)) g31 g30 ?_
    refine dn ?_
    refine vS (vC (t := true) ?_ ?_ (fun h => by cases h))
    · simp (disch := (try simp only [sP]); omega) only [eV]
      simp only [Value.bool.injEq, decide_eq_true_eq]
      omega
    intro _
    refine vK ?_
    refine vS (vc_block (vX ?_))
    refine rM (rA (dn ?_))
    generalize hG : ((B.put (some 32) _).put (some 33) _).put (some 12) _ = G
    have hfG := ((hfB.put (d := 32) (.bool (decide ((i : Int) < (L.length : Int)))) (by omega)).put (d := 33) ((B.put (some 32) (.bool (decide ((i : Int) < (L.length : Int))))).eval (.tmp 31)) (by omega)).put (d := 12) (((B.put (some 32) (.bool (decide ((i : Int) < (L.length : Int))))).put (some 33) ((B.put (some 32) (.bool (decide ((i : Int) < (L.length : Int))))).eval (.tmp 31))).eval (.tmp 33)) (by omega)
    rw [hG] at hfG
    have k10 : G.eval (.tmp 10) = xv := by rw [← hG]; simp (disch := (try simp only [sP]); omega) only [eV, g10]
    have k12 : G.eval (.tmp 12) = .int .i64 (i : Int) := by rw [← hG]; simp (disch := (try simp only [sP]); omega) only [eV, g31]
    have k30 : G.eval (.tmp 30) = .int .i64 (L.length : Int) := by rw [← hG]; simp (disch := (try simp only [sP]); omega) only [eV, g30]
    have k31 : G.eval (.tmp 31) = .int .i64 (i : Int) := by rw [← hG]; simp (disch := (try simp only [sP]); omega) only [eV, g31]
    have k11 : G.eval (.tmp 11) = B.eval (.tmp 11) := by rw [← hG]; simp (disch := (try simp only [sP]); omega) only [eV]
    have hsG := hfG.size
    clear hG
    rw [← k11] at hown
    have hsucc := flat_succ L (fun t => valW (el : Int) (sub.part ver fx) false fx t) i hi
    have hle := flat_le L (fun t => valW (el : Int) (sub.part ver fx) false fx t) (i + 1)
    rw [hsucc, List.length_append] at hle
    have hvb : xs.length + (valW (el : Int) (sub.part ver fx) false fx L[i]).length ≤ big := by
      rw [hxs, List.length_append]
      rw [List.length_append] at hbig
      omega
    have hUV : U ≤ V.heap.size := Nat.le_trans hUW hWV
    have hbd : Below V.heap.size V { V with drawn := V.drawn + 1 } := ⟨rfl, rfl, rfl, Nat.le_refl _, fun _ _ => rfl⟩
    have hbV2 : b + 1 < V.heap.size := hfB.bW
    have mkS : ∀ w2, Below W.heap.size V w2 → w2.cell? ⟨b, 6, none⟩ = some (.int .i64 (el : Int)) ∧ w2.cell? ⟨b, 7, none⟩ = some sv ∧ Cells w2 q (o + i * 5) c := fun w2 h2 =>
      ⟨by rw [h2.cell (p := ⟨b, 6, none⟩) (by show b < _; omega)]; exact c6, by rw [h2.cell (p := ⟨b, 7, none⟩) (by show b < _; omega)]; exact c7, hc.below h2 (by omega)⟩
    have hS := mkS _ (hbd.mono hWV)
    refine vS (vc_rgd [(0, true), (1, true), (2, true), (3, true), (4, true), (5, true), (6, true), (7, true), (8, true), (9, true), (10, true), (11, false), (12, false), (13, true)] (fun W' => W'.cell? ⟨b, 6, none⟩ = some (.int .i64 (el : Int)) ∧ W'.cell? ⟨b, 7, none⟩ = some sv ∧ Cells W' q (o + i * 5) c) HT.mixed (by kernel_rfl) rfl (by kernel_rfl) (fun c a a' w h => hpanic c a a' w h) ?_)
    refine dP rfl rfl rfl (wN rfl) (by simp only [zP, hsG]; decide) hS (fun w' hS' => rM (dn ⟨rfl, rfl, rfl⟩)) ?_
    refine dP rfl rfl rfl (wN rfl) (by simp only [zP, hsG]; decide) hS (fun w' hS' => rF (b := b) (o := 0) (by simp (disch := (try simp only [sP]); omega) only [eV, hfG.s4]) (offs_inv H.fFld (by decide)) (dn ⟨rfl, rfl, rfl⟩)) ?_
    refine dP rfl rfl rfl (wN rfl) (by simp only [zP, hsG]; decide) hS (fun w' hS' => rL (b := b) (o := 6) (v := .int .i64 (el : Int)) (by (try simp (disch := (try simp only [sP]); omega) only [eV]) <;> (first | rfl | assumption)) H.oInt hS'.1 (dn ⟨rfl, rfl, rfl⟩)) ?_
    refine dP rfl rfl rfl (wN rfl) (by simp only [zP, hsG]; decide) hS (fun w' hS' => rF (b := b) (o := 0) (by simp (disch := (try simp only [sP]); omega) only [eV, hfG.s4]) (offs_inv H.fFld (by decide)) (dn ⟨rfl, rfl, rfl⟩)) ?_
    refine dP rfl rfl rfl (wN rfl) (by simp only [zP, hsG]; decide) hS (fun w' hS' => rL (b := b) (o := 7) (v := sv) (by (try simp (disch := (try simp only [sP]); omega) only [eV]) <;> (first | rfl | assumption)) H.oFlds hS'.2.1 (dn ⟨rfl, rfl, rfl⟩)) ?_
    refine dP rfl rfl rfl (wN rfl) (by simp only [zP, hsG]; decide) hS (fun w' hS' => rM (dn ⟨rfl, rfl, rfl⟩)) ?_
    refine dP rfl rfl rfl (wN rfl) (by simp only [zP, hsG]; decide) hS (fun w' hS' => rM (dn ⟨rfl, rfl, rfl⟩)) ?_
    refine dP rfl rfl rfl (wN rfl) (by simp only [zP, hsG]; decide) hS (fun w' hS' => rM (dn ⟨rfl, rfl, rfl⟩)) ?_
    refine dP rfl rfl rfl (wN rfl) (by simp only [zP, hsG]; decide) hS (fun w' hS' => rM (dn ⟨rfl, rfl, rfl⟩)) ?_
    refine dP rfl rfl rfl (wN rfl) (by simp only [zP, hsG]; decide) hS (fun w' hS' => r_index (k := .i64) (j := i) (b := q) (o := o) (len := L.length) (cap := cap') hsl (by simp (disch := (try simp only [sP]); omega) only [eV, k10, hxv']) (by simp (disch := (try simp only [sP]); omega) only [eV, k12]) hi (dn ⟨rfl, rfl, rfl⟩)) ?_
    refine dP rfl rfl rfl (wN rfl) (by simp only [zP, hsG]; decide) hS (fun w' hS' => r_loadAgg (b := q) (o := o + i * 5) (cs := c) (by simp (disch := (try simp only [sP]); omega) only [eV]) (by rw [hrc.len]; exact H.aTree) hS'.2.2 (dn ⟨rfl, rfl, rfl⟩)) ?_
    refine d_sole rfl (wN rfl) ?_
    have hbd' : Below U w { V with drawn := V.drawn + 1 } := hbVU.trans (hbd.mono hUV)
    refine r_call' (args := #[.int .i64 (el : Int), sv, .bool false, .int .i64 ver, .bool fx, .agg c.toArray]) ?_ (s_value (U := V.heap.size) (ver := ver) (nl := false) (fx := fx) (t := L[i]) H HT hz8 hel (fun _ => hp) (Nat.le_refl _) (fun _ => (SlF.below hsub hbd').mono hUV) ((hrc.below (hbd.mono hUV)).mono hUV) (by omega)) ?_
    · simp only [lM]
      simp (disch := (try simp only [sP]); omega) only [eV, hfG.s1, hfG.s2]
    rintro v2 w2 ⟨h1, h2⟩
    have hV2 : Below V.heap.size V w2 := hbd.trans h2
    refine dn (d_then (mkS _ (hV2.mono hWV)) ?_)
    refine d_sole rfl (wN rfl) ?_
    have hown2 := own_below hown hV2
    refine r_append (sz := 1) (U := W.heap.size) (m := (valW (el : Int) (sub.part ver fx) false fx L[i]).length) (news := (valW (el : Int) (sub.part ver fx) false fx L[i]).map bv) H.row (by simp (disch := (try simp only [sP]); omega) only [eV]) (by simp (disch := (try simp only [sP]); omega) only [eV]) hown2 (Nat.le_trans hWV hV2.size) (src_own (rB H.row) h1 (bv_one _)) hvb ?_
    intro v4 w4 h5 h6
    have hV4 : Below W.heap.size V w4 := (hV2.mono hWV).trans h6
    refine dn (d_then (mkS _ hV4) ?_)
    refine dP rfl rfl rfl (wN rfl) (by simp only [zP, hsG]; decide) (mkS _ hV4) (fun w' hS' => rA (dn ⟨rfl, rfl, rfl⟩)) ?_
    refine d_nil ?_
    refine vN (vX ?_)
    refine r_add (k := .i64) (m := (i : Int)) (n := 1) (by simp (disch := (try simp only [sP]); omega) only [eV, k31]) rfl ?_
    refine rM (dn (vN ?_))
    rw [← List.length_append, ← List.map_append] at h5
    refine ⟨by omega, ?_, (by simp (disch := (try simp only [sP]); omega) only [eV, k10]), (by simp (disch := (try simp only [sP]); omega) only [eV, k30]), ?_, Nat.le_trans hWV hV4.size, hbV.trans hV4, xs ++ valW (el : Int) (sub.part ver fx) false fx L[i], ?_, ?_⟩
    · have := hfG.world hV4 (by omega)
      repeat (refine FFr.put ?_ _ (by omega))
      exact this
    · simp (disch := (try simp only [sP]); omega) only [eV]
      rw [wrap_i64 (by unfold big at hLn; omega) (by unfold big at hLn; omega)]
      rfl
    · rw [show Act.eval _ (.tmp 11) = v4 by simp (disch := (try simp only [sP]); omega) only [eV]]
      exact h5
    · rw [hsucc, hxs, List.append_assoc]
  · rintro B V ⟨hm, hfB, g10, g30, g31, hWV, hbV, xs, hown, hxs⟩
    refine vX ?_
    refine r_lss (k := .i64) (m := ((L.length - 0 : Nat) : Int)) (n := (L.length : Int)) g31 g30 ?_
    refine dn ?_
    have hsB := hfB.size
    refine vS (vC (t := false) ?_ (fun h => by cases h) ?_)
    · simp (disch := (try simp only [sP]); omega) only [eV]
      simp only [Value.bool.injEq, decide_eq_false_iff_not]
      omega
    intro _
    refine vc_exit ?_
    simp only [Exit.then, Exit.inBlock, if_true]
    refine vN (vX (rM (rA (dn (vS (vT ?_))))))
    rw [Nat.sub_zero, List.take_length] at hxs
    rw [← hxs] at hQ
    exact hQ _ _ ⟨by simp only [dF]; exact hfB.defers, B.eval (.tmp 11), rO (by simp (disch := (try simp only [sP]); omega) only [eV]), own_mono hown hUW, hf.below.trans (hbV.mono hUW)⟩
end
end Go.Km
namespace Go.Km
open Go Go.RowKit
attribute [local irreducible] vc rO_ runG runS runD
section
variable {P : Program} {E : Env} {w : World} {U : Nat}
theorem s_fieldL (H : SEnv P E) (HT : STexts P E) (hz8 : zeroT P E.tU8 = some (.int .u8 0)) {kind fr to nul tag df ver : Int} {el : Nat} {sub : SFs} {nl fx : Bool} {cs ts : List Value} {n : Int} {s : List UInt8} {tnl : Bool} {l : Trs} {u : List (Nat × List UInt8)} {b : Nat} {A : Act} {W : World} {Q : Exit → Act → World → Prop}
    (hf : FFr P E w U ver fx nl cs ts b A W) (hr : (SF.mk kind fr to nul tag df el sub).Rep w U cs) (hrt : (Tr.mk n s tnl l u).Rep w U ts) (hU : U ≤ w.heap.size) (hel : el ≤ 10) (hp : PartC P E ver fx sub) {L : List Tr} (hL : L = if nl then [] else l.toL.take 32767)
    (hbig : (cnt fx nl L.length 4 ++ (L.map fun t => valW el (sub.part ver fx) false fx t).flatten).length ≤ big) (hpanic : ∀ c a a' w, Q (.panic c) a w → Q (.panic c) a' w)
    (hQ : ∀ a' w', Out P #[.tmp 8] (fun v w' => w'.ownsRow U E.tU8 1 v (cnt fx nl L.length 4 ++ (L.map fun t => valW el (sub.part ver fx) false fx t).flatten).length ((cnt fx nl L.length 4 ++ (L.map fun t => valW el (sub.part ver fx) false fx t).flatten).map bv) ∧ Below U w w') .ret a' w' → Q .ret a' w') :
    vc P (sq [(rg [(oQ 20 (.fieldAddr E.tT (.tmp 7) 3) 0),
            (oQ 21 (.load E.tS (.tmp 20)) E.tS),
            (oQ 22 (.call { callee := .value (.func E.sThings), args := #[(.tmp 21)], argTypes := #[E.tS] }) E.tS),
            (oQ 10 (.assign (.tmp 22)) E.tS)]),
          (sq [(rg [(oQ 23 (.move (.tmp 9)) E.tO)]),
            (.cond (.tmp 23)
              (rg [(oQ 10 (.assign (.const (.slice none 0 0))) E.tS)])
              .skip)]),
          (rg [(oQ 24 (.move (.tmp 2)) E.tO),
            (oQ 25 (.move (.tmp 9)) E.tO),
            (oQ 26 (.move (.tmp 10)) E.tS),
            (oQ 27 (.call { callee := .builtin .len, args := #[(.tmp 26)], argTypes := #[E.tS] }) E.tI),
            (oQ 28 (.call { callee := .value (.func E.sCounted), args := #[(.tmp 24), (.tmp 25), (.tmp 27), (.const (.int .i64 4))], argTypes := #[E.tO, E.tO, E.tI, E.tI] }) E.tB),
            (oQ 11 (.assign (.tmp 28)) E.tB)]),
          (sq [(rg [(oQ 29 (.move (.tmp 10)) E.tS),
              (oQ 30 (.call { callee := .builtin .len, args := #[(.tmp 29)], argTypes := #[E.tS] }) E.tI),
              (oQ 31 (.move (.const (.int .i64 0))) E.tI)]),
            (.block 0 (.loop (sq [(rg [(oQ 32 (.binOp .lss E.tI (.tmp 31) (.tmp 30) E.tI) 0)]),
                  (.cond (.tmp 32)
                    .skip
                    (.exit 0)),
                  (.block 1 (sq [(rg [(oQ 33 (.move (.tmp 31)) E.tI),
                        (oQ 12 (.assign (.tmp 33)) E.tI)]),
                      (rgd [(oQ 34 (.move (.tmp 11)) E.tB),
                        (oQ 35 (.fieldAddr E.tFld (.tmp 4) 6) 0),
                        ⟨some 36, .load E.tI (.tmp 35), E.tI, "", #[⟨1, .data⟩], none⟩,
                        (oQ 37 (.fieldAddr E.tFld (.tmp 4) 7) 0),
                        ⟨some 38, .load E.tFlds (.tmp 37), E.tFlds, "", #[⟨3, .data⟩], none⟩,
                        (oQ 39 (.move (.tmp 1)) E.tI),
                        (oQ 40 (.move (.tmp 2)) E.tO),
                        (oQ 41 (.move (.tmp 10)) E.tS),
                        (oQ 42 (.move (.tmp 12)) E.tI),
                        ⟨some 43, .indexAddr E.tS (.tmp 41) (.tmp 42), 0, "", #[⟨7, .data⟩, ⟨8, .data⟩], none⟩,
                        ⟨some 44, .load E.tT (.tmp 43), E.tT, "", #[⟨9, .data⟩], none⟩,
                        ⟨some 45, .call { callee := .value (.func E.sValue), args := #[(.tmp 36), (.tmp 38), (.const (.bool false)), (.tmp 39), (.tmp 40), (.tmp 44)], argTypes := #[E.tI, E.tFlds, E.tO, E.tI, E.tO, E.tT] }, E.tB, "", #[⟨2, .data⟩, ⟨4, .data⟩, ⟨5, .data⟩, ⟨6, .data⟩, ⟨10, .data⟩], none⟩,
                        ⟨some 46, .call { callee := .builtin .append, args := #[(.tmp 34), (.tmp 45)], argTypes := #[E.tB, E.tB] }, E.tB, "", #[⟨0, .data⟩, ⟨11, .data⟩, ⟨11, .chain⟩], none⟩,
                        ⟨some 11, .assign (.tmp 46), E.tB, "", #[⟨12, .data⟩, ⟨12, .chain⟩, ⟨0, .phase⟩, ⟨1, .phase⟩, ⟨2, .phase⟩, ⟨3, .phase⟩, ⟨4, .phase⟩, ⟨5, .phase⟩, ⟨6, .phase⟩, ⟨7, .phase⟩, ⟨8, .phase⟩, ⟨9, .phase⟩, ⟨10, .phase⟩, ⟨11, .phase⟩, ⟨12, .phase⟩], none⟩])])),
                  (rg [(oQ 47 (.binOp .add E.tI (.tmp 31) (.const (.int .i64 1)) E.tI) E.tI),
                    (oQ 31 (.move (.tmp 47)) E.tI)])])))]),
          (rg [(oQ 48 (.move (.tmp 11)) E.tB),
            (oQ 8 (.assign (.tmp 48)) E.tB)]),
          .ret]) Q A W := by
  obtain ⟨s1, lv, uv, hts, _, _, hl⟩ := hrt
  have d3 : W.cell? ⟨b + 1, 0 + 3, none⟩ = some lv := hf.ct 3 lv (by rw [hts]; rfl)
  have hsl := rB H.rTrees
  obtain ⟨ad, cap, hlv, hcap, had⟩ : ∃ ad cap, lv = .slice ad l.len cap ∧ l.len ≤ cap ∧ ∀ k, k ≤ l.len → ListB w U (.slice ad k cap) (l.toL.take k) := by
    rcases hl with ⟨⟨ad, cap, rfl⟩, h0⟩ | ⟨q, o, cap, rfl, hc, hq, hrep⟩
    · refine ⟨ad, cap, by rw [h0], by omega, fun k hk => .inl ⟨⟨ad, cap, by rw [show k = 0 by omega]⟩, ?_⟩⟩
      rw [show k = 0 by omega, List.take_zero]
    · refine ⟨_, cap, rfl, hc, fun k hk => .inr ⟨q, o, cap, by rw [List.length_take, Trs.toL_len, Nat.min_eq_left hk], hq, fun i t ht => ?_⟩⟩
      have : l.get i = some t := by
        rw [List.getElem?_take] at ht
        split at ht
        · rw [← Trs.toL_get]; exact ht
        · cases ht
      exact hrep.get this
  subst hlv
  have hs := hf.size
  refine vX ?_
  refine rF (b := b + 1) (o := 0) (by simp (disch := (try simp only [sP]); omega) only [eV, hf.s7]) (offs_inv H.fTree (by decide)) ?_
  refine rL (b := b + 1) (o := 0 + 3) (by simp (disch := (try simp only [sP]); omega) only [eV]) H.oTrees d3 ?_
  refine r_call' (args := #[.slice ad l.len cap]) ?_ (s_first (T := E.tS) (e := E.tT) (c := .skip) (.inr hsl) H.int hcap HT.things) ?_
  · simp only [lM]
    simp (disch := (try simp only [sP]); omega) only [eV]
  rintro v w' ⟨rfl, rfl⟩
  refine rA (dn (vS (vX (rM (dn ?_)))))
  refine vS (vC (t := nl) (by simp (disch := (try simp only [sP]); omega) only [eV, hf.s9]) ?_ ?_)
  · intro hn
    have hL0 : L = [] := by rw [hL, hn]; rfl
    refine vR (by simp) ?_
    refine rA (dn (vN ?_))
    refine s_fieldL2 (b := b) (ts := ts) (cs := cs) (xv := .slice none 0 0) H HT hz8 (L := L) ?_ hr hU hel hp (by simp (disch := (try simp only [sP]); omega) only [eV]) (.inl ⟨nilS, hL0⟩) (by rw [hL0]; decide) hbig hpanic hQ
    repeat (refine FFr.put ?_ _ (by omega))
    exact hf
  · intro hn
    have hL1 : L = l.toL.take (min l.len 32767) := by
      rw [hL, hn]
      simp only [Bool.false_eq_true, if_false]
      rcases Nat.le_total l.len 32767 with h | h
      · rw [Nat.min_eq_left h, List.take_of_length_le (by rw [Trs.toL_len]; exact h), List.take_of_length_le (by rw [Trs.toL_len]; exact Nat.le_refl _)]
      · rw [Nat.min_eq_right h]
    refine vK (vN ?_)
    refine s_fieldL2 (b := b) (ts := ts) (cs := cs) (xv := .slice ad (min l.len 32767) cap) H HT hz8 (L := L) ?_ hr hU hel hp (by simp (disch := (try simp only [sP]); omega) only [eV]) (by rw [hL1]; exact had _ (Nat.min_le_left _ _)) (by rw [hL1, List.length_take]; unfold big; omega) hbig hpanic hQ
    repeat (refine FFr.put ?_ _ (by omega))
    exact hf
end
end Go.Km
namespace Go.Km
open Go Go.RowKit
attribute [local irreducible] vc rO_ runG runS runD
theorem SF.wr_list {v : Int} {fx : Bool} {fr to nul tag df el : Int} {sub : SFs} {n : Int} {s : List UInt8} {tnl : Bool} {l : Trs} {u : List (Nat × List UInt8)} (nl : Bool) (hn : (SF.mk 11 fr to nul tag df el sub).isNull v (.mk n s tnl l u) = nl) (L : List Tr) (hL : L = if nl then [] else l.toL.take 32767) :
  (SF.mk 11 fr to nul tag df el sub).wr v fx (.mk n s tnl l u) = cnt fx nl L.length 4 ++ (L.map fun t => valW el (sub.part v fx) false fx t).flatten := by
 subst hn; subst hL
 simp only [SF.wr, if_true]
 rfl
theorem SF.wr_null {v : Int} {fx : Bool} {fr to nul tag df el : Int} {sub : SFs} {t : Tr} (h0 : nul ≥ 0) :
  (SF.mk 10 fr to nul tag df el sub).wr v fx t = if (SF.mk 10 fr to nul tag df el sub).isNull v t then be 1 (-1) else be 1 1 ++ sub.part v fx t := by
 simp [SF.wr, SFs.part, h0]
theorem SF.wr_val {v : Int} {fx : Bool} {kind fr to nul tag df el : Int} {sub : SFs} {t : Tr} (h1 : kind ≠ 11) (h2 : ¬ (kind = 10 ∧ nul ≥ 0)) :
  (SF.mk kind fr to nul tag df el sub).wr v fx t = valW kind (sub.part v fx) ((SF.mk kind fr to nul tag df el sub).isNull v t) fx t := by
 have : ¬ ((decide (kind = 10) && decide (nul ≥ 0)) = true) := by simpa using h2
 simp only [SF.wr, h1, if_false, this]
 rfl
section
variable {P : Program} {E : Env}
theorem s_field (H : SEnv P E) (HT : STexts P E) (hz8 : zeroT P E.tU8 = some (.int .u8 0)) {ver : Int} {fx : Bool} {f : SF} (hk : f.kindOk = true) (hp : PartC P E ver fx f.sub) : FieldC P E ver fx f := by
 intro U w cs t ts hU hr hrt hbig
 refine CallsV.enter HT.field (by simp) ?_
 intro a hsz hdf harg
 have e0 := harg 0 (.agg cs.toArray) (by simp)
 have e1 := harg 1 (.int .i64 ver) (by simp)
 have e2 := harg 2 (.bool fx) (by simp)
 have e3 := harg 3 (.agg ts.toArray) (by simp)
 unfold c_sField
 refine vX ?_
 refine r_box (v := .agg cs.toArray) (by simp (disch := (try simp only [sP]); omega) only [eV, e0]) ?_
 refine r_box (v := .agg ts.toArray) (by simp (disch := (try simp only [sP]); omega) only [eV, e3]) ?_
 refine rA (dn ?_)
 generalize hw1 : w.alloc (.cells (Value.agg cs.toArray).cells E.tFld) = w1
 have hb1 : Below U w w1 := by rw [← hw1]; exact (Below.refl U w).alloc (o := .cells _ _) hU
 have hz1 : w1.heap.size = w.heap.size + 1 := by rw [← hw1]; simp
 have c1 : Cells w1 w.heap.size 0 cs := by
  intro i v hv
  rw [← hw1, Nat.zero_add]
  exact cells_new w _ E.tFld (by simpa [Value.cells] using hv)
 clear hw1
 generalize hw2 : w1.alloc (.cells (Value.agg ts.toArray).cells E.tT) = W
 have hb2 : Below U w W := by rw [← hw2]; exact hb1.trans ((Below.refl U w1).alloc (o := .cells _ _) (by omega))
 have hz2 : W.heap.size = w.heap.size + 2 := by rw [← hw2]; simp [hz1]
 have d1 : Cells W w.heap.size 0 cs := by rw [← hw2]; exact c1.eff (Eff.refl (fun _ _ => False) w1 |>.alloc _) (fun _ _ h => h)
 have d2 : Cells W (w.heap.size + 1) 0 ts := by
  intro i v hv
  rw [← hw2, Nat.zero_add, ← hz1]
  exact cells_new w1 _ E.tT (by simpa [Value.cells] using hv)
 clear hw2
 rw [hz1]
 refine vX ?_
 refine r_loadAgg (b := w.heap.size) (o := 0) (cs := cs) (by simp (disch := (try simp only [sP]); omega) only [eV]) (by rw [hr.len]; exact H.aFld) d1 ?_
 refine rM ?_
 refine r_loadAgg (b := w.heap.size + 1) (o := 0) (cs := ts) (by simp (disch := (try simp only [sP]); omega) only [eV]) (by rw [hrt.len]; exact H.aTree) d2 ?_
 refine r_call' (args := #[.agg cs.toArray, .int .i64 ver, .agg ts.toArray]) ?_ (s_null (U := W.heap.size) H HT.null ((hr.below hb2).mono (by omega)) ((hrt.below hb2).mono (by omega)) (Nat.le_refl _)) ?_
 ·simp only [lM]
  simp (disch := (try simp only [sP]); omega) only [eV, e1]
 rintro v w3 ⟨rfl, hb3⟩
 refine rA (dn ?_)
 generalize hA : Act.put _ (some 9) _ = A
 have hf : FFr P E w U ver fx (f.isNull ver t) cs ts w.heap.size A w3 := by
  rw [← hA]
  exact ⟨by simp only [zP]; exact hsz, by simp only [dF]; exact hdf, (by simp (disch := (try simp only [sP]); omega) only [eV, e1]), (by simp (disch := (try simp only [sP]); omega) only [eV, e2]), (by simp (disch := (try simp only [sP]); omega) only [eV]), (by simp (disch := (try simp only [sP]); omega) only [eV]), (by simp (disch := (try simp only [sP]); omega) only [eV]), hb2.trans (hb3.mono (by omega)), hU, by have := hb3.size; omega, d1.below hb3 (by omega), d2.below hb3 (by omega)⟩
 clear hA
 have hs := hf.size
 cases f with
 | mk kindI fr to nul tag df elI sub =>
 simp only [SF.kindOk, Bool.and_eq_true, decide_eq_true_eq] at hk
 obtain ⟨kind, rfl⟩ := Int.eq_ofNat_of_zero_le hk.1.1.1
 obtain ⟨el, rfl⟩ := Int.eq_ofNat_of_zero_le hk.1.2
 have hel : el ≤ 10 := by omega
 have k0 : w3.cell? ⟨w.heap.size, 0 + 0, none⟩ = some (.int .i64 (kind : Int)) := hf.cf 0 _ (by obtain ⟨sv, rfl, _⟩ := hr; rfl)
 have k3 : w3.cell? ⟨w.heap.size, 0 + 3, none⟩ = some (.int .i64 nul) := hf.cf 3 _ (by obtain ⟨sv, rfl, _⟩ := hr; rfl)
 cases t with
 | mk n s tnl l u =>
 generalize hnl : (SF.mk (kind : Int) fr to nul tag df (el : Int) sub).isNull ver (.mk n s tnl l u) = nl at hf
 refine vS (vX ?_)
 refine rF (b := w.heap.size) (o := 0) (by simp (disch := (try simp only [sP]); omega) only [eV, hf.s4]) (offs_inv H.fFld (by decide)) ?_
 refine rL (b := w.heap.size) (o := 0 + 0) (by simp (disch := (try simp only [sP]); omega) only [eV]) H.oInt k0 ?_
 refine r_eql (k := .i64) (m := (kind : Int)) (n := 11) (by simp (disch := (try simp only [sP]); omega) only [eV]) rfl ?_
 refine dn ?_
 refine vS (vC (t := ((kind : Int) == 11)) (by (try simp (disch := (try simp only [sP]); omega) only [eV]) <;> (first | rfl | assumption)) ?_ ?_)
 ·intro h11
  have h11' : kind = 11 := by simp only [beq_iff_eq] at h11; omega
  subst h11'
  have hwr := SF.wr_list (fx := fx) nl hnl _ rfl
  have hwr' : (SF.mk ((11 : Nat) : Int) fr to nul tag df (el : Int) sub).wr ver fx (.mk n s tnl l u) = _ := hwr
  rw [hwr'] at hbig ⊢
  refine s_fieldL (w := w) (U := U) (b := w.heap.size) (ts := ts) (cs := cs) (nl := nl) H HT hz8 ?_ hr hrt hU hel hp rfl hbig (fun _ _ _ _ h => False.elim h) (fun _ _ h => h)
  repeat (refine FFr.put ?_ _ (by omega))
  exact hf
 ·intro h11
  have h11' : kind ≠ 11 := by simp only [beq_eq_false_iff_ne, ne_eq] at h11; omega
  refine vK (vN ?_)
  generalize hB : Act.put _ (some 19) _ = B
  have hfB : FFr P E w U ver fx nl cs ts w.heap.size B w3 := by
   rw [← hB]
   repeat (refine FFr.put ?_ _ (by omega))
   exact hf
  clear hB
  have hsB := hfB.size
  refine vS (vS (vc_rgS [0, 1, 2, 3, 4, 5, 6, 7] rfl ?_))
  refine rD rfl (wN rfl) (rF (b := w.heap.size) (o := 0) (by simp (disch := (try simp only [sP]); omega) only [eV, hfB.s4]) (offs_inv H.fFld (by decide)) (dn (rT ?_)))
  refine rD rfl (wN rfl) (rL (b := w.heap.size) (o := 0 + 0) (by simp (disch := (try simp only [sP]); omega) only [eV]) H.oInt k0 (dn (rT ?_)))
  refine rD rfl (wN rfl) (r_eql (k := .i64) (m := (kind : Int)) (n := 10) (by simp (disch := (try simp only [sP]); omega) only [eV]) rfl (dn (rT ?_)))
  (refine rD rfl (wN rfl) ?_; refine rM ?_; refine dn (rT ?_))
  have fin : ∀ (C : Act), FFr P E w U ver fx nl cs ts w.heap.size C w3 → ¬ (kind = 10 ∧ nul ≥ 0) → ∀ Q : Exit → Act → World → Prop, (∀ a' w', Out P #[.tmp 8] (fun v w' => w'.ownsRow U E.tU8 1 v ((SF.mk (kind : Int) fr to nul tag df (el : Int) sub).wr ver fx (.mk n s tnl l u)).length (((SF.mk (kind : Int) fr to nul tag df (el : Int) sub).wr ver fx (.mk n s tnl l u)).map bv) ∧ Below U w w') .ret a' w' → Q .ret a' w') → vc P (sq [(rg [(oQ 67 (.fieldAddr E.tFld (.tmp 4) 0) 0),
   (oQ 68 (.load E.tI (.tmp 67)) E.tI),
   (oQ 69 (.fieldAddr E.tFld (.tmp 4) 7) 0),
   (oQ 70 (.load E.tFlds (.tmp 69)) E.tFlds),
   (oQ 71 (.move (.tmp 9)) E.tO),
   (oQ 72 (.move (.tmp 1)) E.tI),
   (oQ 73 (.move (.tmp 2)) E.tO),
   (oQ 74 (.load E.tT (.tmp 7)) E.tT),
   (oQ 75 (.call { callee := .value (.func E.sValue), args := #[(.tmp 68), (.tmp 70), (.tmp 71), (.tmp 72), (.tmp 73), (.tmp 74)], argTypes := #[E.tI, E.tFlds, E.tO, E.tI, E.tO, E.tT] }) E.tB),
   (oQ 8 (.assign (.tmp 75)) E.tB)]), .ret]) Q C w3 := by
   intro C hfC hno Q hQ
   have hwr := SF.wr_val (v := ver) (fx := fx) (fr := fr) (to := to) (nul := nul) (tag := tag) (df := df) (el := (el : Int)) (sub := sub) (t := .mk n s tnl l u) (kind := (kind : Int)) (by omega) (by omega)
   rw [hnl] at hwr
   rw [hwr] at hbig hQ
   exact s_fieldV H HT hz8 hfC hr hrt hU (by omega) (fun _ => hp) hbig hQ
  by_cases h10 : kind = 10
  ·subst h10
   refine rD rfl (by rw [wS (b := true) rfl rfl (by (try simp (disch := (try simp only [sP]); omega) only [eV]) <;> (first | rfl | assumption))]; rfl) (rF (b := w.heap.size) (o := 0) (by simp (disch := (try simp only [sP]); omega) only [eV, hfB.s4]) (offs_inv H.fFld (by decide)) (dn (rT ?_)))
   refine rD rfl (by rw [wS (b := true) rfl rfl (by (try simp (disch := (try simp only [sP]); omega) only [eV]) <;> (first | rfl | assumption))]; rfl) (rL (b := w.heap.size) (o := 0 + 3) (by simp (disch := (try simp only [sP]); omega) only [eV]) H.oInt k3 (dn (rT ?_)))
   refine rD rfl (by rw [wS (b := true) rfl rfl (by (try simp (disch := (try simp only [sP]); omega) only [eV]) <;> (first | rfl | assumption))]; rfl) (r_geq (k := .i64) (m := nul) (n := 0) (by simp (disch := (try simp only [sP]); omega) only [eV]) rfl (dn (rT ?_)))
   (refine rD rfl (wN rfl) ?_; (refine r_pickT ?_ ?_; (try simp (disch := (try simp only [sP]); omega) only [eV]) <;> (first | rfl | assumption)); refine dn (rT ?_))
   refine runS_nil ?_
   refine vS (vC (t := decide (nul ≥ 0)) (by (try simp (disch := (try simp only [sP]); omega) only [eV]) <;> (first | rfl | assumption)) ?_ ?_)
   ·intro h0
    have h0' : nul ≥ 0 := by simpa using h0
    have hwr := SF.wr_null (v := ver) (fx := fx) (fr := fr) (to := to) (tag := tag) (df := df) (el := (el : Int)) (sub := sub) (t := .mk n s tnl l u) h0'
    have hnl' : (SF.mk 10 fr to nul tag df (el : Int) sub).isNull ver (.mk n s tnl l u) = nl := hnl
    rw [hnl'] at hwr
    have hwr' : (SF.mk ((10 : Nat) : Int) fr to nul tag df (el : Int) sub).wr ver fx (.mk n s tnl l u) = _ := hwr
    rw [hwr'] at hbig ⊢
    refine s_fieldN (w := w) (U := U) (b := w.heap.size) (ts := ts) (cs := cs) (nl := nl) (t := .mk n s tnl l u) H HT ?_ hr hrt hU hp hbig (fun _ _ _ _ h => False.elim h) (fun _ _ h => h)
    repeat (refine FFr.put ?_ _ (by omega))
    exact hfB
   ·intro h0
    have h0' : ¬ nul ≥ 0 := by simpa using h0
    refine vK (vN ?_)
    refine fin _ ?_ (fun h => h0' h.2) _ (fun _ _ h => h)
    repeat (refine FFr.put ?_ _ (by omega))
    exact hfB
  ·have hb10 : ((kind : Int) == 10) = false := by simp only [beq_eq_false_iff_ne, ne_eq]; omega
   rw [hb10]
   (refine runS_no rfl (by rw [wS (b := false) rfl rfl (by (try simp (disch := (try simp only [sP]); omega) only [eV]) <;> (first | rfl | assumption))]; rfl) ?_)
   (refine runS_no rfl (by rw [wS (b := false) rfl rfl (by (try simp (disch := (try simp only [sP]); omega) only [eV]) <;> (first | rfl | assumption))]; rfl) ?_)
   (refine runS_no rfl (by rw [wS (b := false) rfl rfl (by (try simp (disch := (try simp only [sP]); omega) only [eV]) <;> (first | rfl | assumption))]; rfl) ?_)
   (refine rD rfl (wN rfl) ?_; (refine r_pickF ?_ ?_; (try simp (disch := (try simp only [sP]); omega) only [eV]) <;> (first | rfl | assumption)); refine dn (rT ?_))
   refine runS_nil ?_
   refine vS (vC (t := false) (by (try simp (disch := (try simp only [sP]); omega) only [eV]) <;> (first | rfl | assumption)) (fun h => by cases h) ?_)
   intro _
   refine vK (vN ?_)
   refine fin _ ?_ (fun h => h10 h.1) _ (fun _ _ h => h)
   repeat (refine FFr.put ?_ _ (by omega))
   exact hfB
end
end Go.Km
namespace Go.Km
open Go Go.RowKit
attribute [local irreducible] vc rO_ runG runS runD
theorem SFs.tags_len : ∀ fs : SFs, fs.tags.length = fs.len
 | .nil => rfl
 | .cons (.mk _ _ _ _ _ _ _ _) r => by simp [SFs.tags, SFs.len, SFs.tags_len r]
def SF.tag : SF → Int
 | .mk _ _ _ _ tag _ _ _ => tag
theorem SFs.tags_get : ∀ (fs : SFs) (i : Nat) (f : SF), fs.get i = some f → fs.tags[i]? = some f.tag
 | .nil, _, _, h => by cases h
 | .cons (.mk _ _ _ _ tag _ _ _) r, 0, f, h => by simp only [SFs.get, Option.some.injEq] at h; subst h; rfl
 | .cons (.mk _ _ _ _ tag _ _ _) r, i + 1, f, h => by simpa [SFs.tags] using SFs.tags_get r i f h
theorem known_succ (l : List Int) (i : Nat) (h : i < l.length) : known (l.take (i + 1)) = if 0 ≤ l[i] then max (known (l.take i)) (l[i].toNat + 1) else known (l.take i) := by
 unfold known
 rw [List.take_succ_eq_append_getElem h, List.foldl_append]
 rfl
theorem known_lt {B : Nat} (l : List Int) (h : ∀ t ∈ l, t < (B : Int)) : known l ≤ B := by
 unfold known
 have : ∀ (l : List Int) (n : Nat), n ≤ B → (∀ t ∈ l, t < (B : Int)) → l.foldl (fun n t => if 0 ≤ t then max n (t.toNat + 1) else n) n ≤ B := by
  intro l
  induction l with
  | nil => exact fun n hn _ => hn
  | cons t r ih =>
   intro n hn h
   refine ih _ ?_ (fun x hx => h x (by simp [hx]))
   have := h t (by simp)
   show (if 0 ≤ t then max n (t.toNat + 1) else n) ≤ B
   split <;> omega
 exact this l 0 (Nat.zero_le _) h
section
variable {P : Program} {a : Act} {w : World} {r : List Oper} {Q : Exit → Act → World → Prop}
theorem r_max {d x y t ty p af g k m n} (hx : a.eval x = .int k m) (hy : a.eval y = .int k n) (h : rO_ P Q r (a.put (some d) (.int k (if n > m then n else m))) w) :
  rO_ P Q (⟨some d, .call { callee := .builtin .max, args := #[x, y], argTypes := t }, ty, p, af, g⟩ :: r) a w := by
 refine st ?_
 have hr : (Builtin.max_ t ty #[a.eval x, a.eval y]).run P w = .ok (.int k (if n > m then n else m)) w := by
  rw [hx, hy]
  simp [Builtin.max_, Builtin.max2]
 simp only [Oper.wp, execOp, resolve, invoke, builtin, Sem.run_bind, Sem.run_pure, Result.andThen_ok, List.map_toArray, List.map_cons, List.map_nil, hr, Oper.upon_value]
 exact h
end
section
variable {P : Program} {E : Env} {w : World} {U : Nat}
theorem s_known (H : SEnv P E) (HL : SLay P E) (HT : STexts P E) {fs : SFs} {sv : Value} (hsf : SlF w U sv fs) (hU : U ≤ w.heap.size) (htg : ∀ t ∈ fs.tags, t < 65536) (hlen : fs.len ≤ big) :
  CallsV P E.sKnown #[sv] w fun v w' => v = .int .u32 (known fs.tags : Nat) ∧ Below U w w' := by
 unfold big at hlen
 refine CallsV.enter HT.known (by simp) ?_
 intro a hsz hdf harg
 have e0 := harg 0 sv (by simp)
 obtain ⟨ad, cap, hsv, hget⟩ : ∃ ad cap, sv = .slice ad fs.len cap ∧ ∀ i f, fs.get i = some f → i < fs.len → ∃ q o c, ad = some ⟨q, o, none⟩ ∧ q < U ∧ Cells w q (o + i * 8) c ∧ f.Rep w U c := by
  rcases hsf with ⟨rfl, h0⟩ | ⟨q, o, cap, rfl, _, hq, hrep⟩
  ·exact ⟨none, 0, by rw [h0], fun i f _ hi => by omega⟩
  ·refine ⟨_, cap, rfl, fun i f hf _ => ?_⟩
   obtain ⟨c, h1, h2⟩ := hrep.get hf
   exact ⟨q, o, c, rfl, hq, h1, h2⟩
 obtain ⟨z, hz, hzc⟩ := lays_zero HL.fld
 unfold c_sKnown
 refine vX (rA (dn (vX (rA (dn (vS (vX (rM ?_))))))))
 refine r_len (ad := ad) (n := fs.len) (c := cap) H.sFlds (by simp (disch := (try simp only [sP]); omega) only [eV, e0, hsv]) ?_
 refine rM (dn ?_)
 refine vS (vc_block (vc_count (fun m A W => m ≤ fs.len ∧ A.tmps.size = 23 ∧ A.defers = [] ∧ A.eval (.tmp 6) = sv ∧ A.eval (.tmp 7) = .int .i64 (fs.len : Int) ∧ A.eval (.tmp 8) = .int .i64 ((fs.len - m : Nat) : Int) ∧ A.eval (.tmp 3) = .int .u32 (known (fs.tags.take (fs.len - m)) : Nat) ∧ Below U w W) fs.len ?_ ?_ ?_))
 ·refine ⟨Nat.le_refl _, by simp only [zP]; exact hsz, by simp only [dF]; exact hdf, (by simp (disch := (try simp only [sP]); omega) only [eV, e0]), (by simp (disch := (try simp only [sP]); omega) only [eV]), ?_, ?_, Below.refl _ _⟩
  ·simp (disch := (try simp only [sP]); omega) only [eV]
   simp
  ·simp (disch := (try simp only [sP]); omega) only [eV]
   simp [known]
 ·rintro m A W ⟨hm, hs, hd, g6, g7, g8, g3, hb⟩
  have hi : fs.len - (m + 1) < fs.len := by omega
  have him : fs.len - m = (fs.len - (m + 1)) + 1 := by omega
  rw [him]
  generalize hii : fs.len - (m + 1) = i at *
  obtain ⟨f, hf⟩ := SFs.get_lt fs i hi
  obtain ⟨q, o, c, rfl, hq, hc, hrc⟩ := hget i f hf hi
  have htag := SFs.tags_get fs i f hf
  have hil : i < fs.tags.length := by rw [SFs.tags_len]; exact hi
  have htag' : fs.tags[i] = f.tag := by rw [List.getElem?_eq_getElem hil] at htag; exact Option.some.inj htag
  have hks := known_succ fs.tags i hil
  rw [htag'] at hks
  have htb : f.tag < 65536 := htg f.tag (by rw [← htag']; exact List.getElem_mem hil)
  have hkb : known (fs.tags.take i) ≤ 65536 := known_lt (B := 65536) _ (fun t ht => htg t (List.mem_of_mem_take ht))
  have hUW : U ≤ W.heap.size := Nat.le_trans hU hb.size
  refine vX ?_
  refine r_lss (k := .i64) (m := (i : Int)) (n := (fs.len : Int)) g8 g7 ?_
  refine dn ?_
  refine vS (vC (t := true) ?_ ?_ (fun h => by cases h))
  ·simp (disch := (try simp only [sP]); omega) only [eV]
   simp only [Value.bool.injEq, decide_eq_true_eq]
   omega
  intro _
  refine vK ?_
  refine vS (vc_block (vX ?_))
  refine r_index (k := .i64) (j := i) (b := q) (o := o) (len := fs.len) (cap := cap) H.sFlds (by simp (disch := (try simp only [sP]); omega) only [eV, g6, hsv]) (by simp (disch := (try simp only [sP]); omega) only [eV, g8]) hi ?_
  refine r_loadAgg (b := q) (o := o + i * 8) (cs := c) (by simp (disch := (try simp only [sP]); omega) only [eV]) (by rw [hrc.len]; exact H.aFld) (hc.below hb hq) ?_
  refine r_alloc hz ?_
  refine r_storeAgg (b := W.heap.size) (o := 0) (cs := c) (by simp (disch := (try simp only [sP]); omega) only [eV]) (by simp (disch := (try simp only [sP]); omega) only [eV]) hrc.one (by rw [hrc.len]; exact H.aFld) ?_ ?_
  ·intro j hj
   rw [Nat.zero_add]
   exact free_new W _ _ (by rw [hzc]; rw [hrc.len] at hj; simpa using hj)
  refine dn ?_
  have hc4 : (setCells (W.alloc (.cells z.cells E.tFld)) W.heap.size 0 c).cell? ⟨W.heap.size, 0 + 4, none⟩ = some (.int .i64 f.tag) := by
   refine setCells_cell W.heap.size c _ 0 (fun j hj => ?_) 4 _ ?_
   ·rw [Nat.zero_add]
    exact (free_new W z.cells E.tFld (by rw [hzc]; rw [hrc.len] at hj; simpa using hj)).1
   ·cases f with
    | mk => obtain ⟨sv2, rfl, _⟩ := hrc; rfl
  have hb2 : Below U w (setCells (W.alloc (.cells z.cells E.tFld)) W.heap.size 0 c) := by
   refine hb.trans (((Below.refl U W).alloc (o := .cells _ _) hUW).trans ((setCells_eff W.heap.size c _ 0).below (by simp; omega) (by rintro k i hk ⟨rfl, _, _⟩; omega)))
  generalize setCells (W.alloc (.cells z.cells E.tFld)) W.heap.size 0 c = W2 at hc4 hb2 ⊢
  have fin : ∀ (B : Act) (k : Nat), B.tmps.size = 23 → B.defers = [] → B.eval (.tmp 6) = sv → B.eval (.tmp 7) = .int .i64 (fs.len : Int) → B.eval (.tmp 8) = .int .i64 (i : Int) → B.eval (.tmp 3) = .int .u32 (k : Int) → k = known (fs.tags.take (i + 1)) → ∀ Q : Exit → Act → World → Prop,
    (∀ A' , m ≤ fs.len ∧ A'.tmps.size = 23 ∧ A'.defers = [] ∧ A'.eval (.tmp 6) = sv ∧ A'.eval (.tmp 7) = .int .i64 (fs.len : Int) ∧ A'.eval (.tmp 8) = .int .i64 ((i + 1 : Nat) : Int) ∧ A'.eval (.tmp 3) = .int .u32 (known (fs.tags.take (i + 1)) : Nat) ∧ Below U w W2 → Q .normal A' W2) →
    vc P (sq [(rg [(oQ 21 (.binOp .add E.tI (.tmp 8) (.const (.int .i64 1)) E.tI) E.tI), (oQ 8 (.move (.tmp 21)) E.tI)])]) Q B W2 := by
   intro B k b1 b2 b6 b7 b8 b3 hk Q hQ
   refine vR (by simp) ?_
   refine r_add (k := .i64) (m := (i : Int)) (n := 1) (by simp (disch := (try simp only [sP]); omega) only [eV, b8]) rfl ?_
   refine rM (dn ?_)
   refine hQ _ ⟨by omega, by simp only [zP]; exact b1, by simp only [dF]; exact b2, (by simp (disch := (try simp only [sP]); omega) only [eV, b6]), (by simp (disch := (try simp only [sP]); omega) only [eV, b7]), ?_, ?_, hb2⟩
   ·simp (disch := (try simp only [sP]); omega) only [eV]
    rw [wrap_i64 (by omega) (by omega)]
    rfl
   ·simp (disch := (try simp only [sP]); omega) only [eV, b3]
    rw [hk]
  refine vX ?_
  refine rF (b := W.heap.size) (o := 0) (by simp (disch := (try simp only [sP]); omega) only [eV]) (offs_inv H.fFld (by decide)) ?_
  refine rL (b := W.heap.size) (o := 0 + 4) (by simp (disch := (try simp only [sP]); omega) only [eV]) H.oInt hc4 ?_
  refine r_geq (k := .i64) (m := f.tag) (n := 0) (by simp (disch := (try simp only [sP]); omega) only [eV]) rfl ?_
  refine dn ?_
  refine vS (vC (t := decide (f.tag ≥ 0)) (by (try simp (disch := (try simp only [sP]); omega) only [eV]) <;> (first | rfl | assumption)) ?_ ?_)
  ·intro h0
   have h0' : 0 ≤ f.tag := by simpa using h0
   refine vR (by simp) ?_
   refine rM ?_
   refine rF (b := W.heap.size) (o := 0) (by simp (disch := (try simp only [sP]); omega) only [eV]) (offs_inv H.fFld (by decide)) ?_
   refine rL (b := W.heap.size) (o := 0 + 4) (by simp (disch := (try simp only [sP]); omega) only [eV]) H.oInt hc4 ?_
   refine r_conv (k := .i64) (k' := .u32) (m := f.tag) H.int H.u32 (by simp (disch := (try simp only [sP]); omega) only [eV]) ?_
   have hw1 : IntKind.u32.wrap f.tag = f.tag := by rw [wrap_u32]; omega
   rw [hw1]
   refine r_add (k := .u32) (m := f.tag) (n := 1) (by simp (disch := (try simp only [sP]); omega) only [eV]) rfl ?_
   have hw2 : IntKind.u32.wrap (f.tag + 1) = ((f.tag.toNat + 1 : Nat) : Int) := by rw [wrap_u32]; omega
   rw [hw2]
   refine r_max (k := .u32) (m := ((known (fs.tags.take i) : Nat) : Int)) (n := ((f.tag.toNat + 1 : Nat) : Int)) (by simp (disch := (try simp only [sP]); omega) only [eV, g3]) (by simp (disch := (try simp only [sP]); omega) only [eV]) ?_
   refine rA (dn (vN ?_))
   refine fin _ (max (known (fs.tags.take i)) (f.tag.toNat + 1)) (by simp only [zP]; exact hs) (by simp only [dF]; exact hd) (by simp (disch := (try simp only [sP]); omega) only [eV, g6]) (by simp (disch := (try simp only [sP]); omega) only [eV, g7]) (by simp (disch := (try simp only [sP]); omega) only [eV, g8]) ?_ (by rw [hks, if_pos h0']) _ (fun A' h => h)
   simp (disch := (try simp only [sP]); omega) only [eV]
   congr 1
   split <;> omega
  ·intro h0
   have h0' : ¬ 0 ≤ f.tag := by simpa using h0
   refine vK (vN ?_)
   exact fin _ (known (fs.tags.take i)) (by simp only [zP]; exact hs) (by simp only [dF]; exact hd) (by simp (disch := (try simp only [sP]); omega) only [eV, g6]) (by simp (disch := (try simp only [sP]); omega) only [eV, g7]) (by simp (disch := (try simp only [sP]); omega) only [eV, g8]) (by simp (disch := (try simp only [sP]); omega) only [eV, g3]) (by rw [hks, if_neg h0']) _ (fun A' h => h)
 ·rintro A W ⟨hm, hs, hd, g6, g7, g8, g3, hb⟩
  refine vX ?_
  refine r_lss (k := .i64) (m := ((fs.len - 0 : Nat) : Int)) (n := (fs.len : Int)) g8 g7 ?_
  refine dn ?_
  refine vS (vC (t := false) ?_ (fun h => by cases h) ?_)
  ·simp (disch := (try simp only [sP]); omega) only [eV]
   simp only [Value.bool.injEq, decide_eq_false_iff_not]
   omega
  intro _
  refine vc_exit ?_
  simp only [Exit.then, Exit.inBlock, if_true]
  refine vN (vX (rM (rA (dn (vS (vT ?_))))))
  rw [Nat.sub_zero, ← SFs.tags_len, List.take_length] at g3
  exact ⟨by simp only [dF]; exact hd, _, rO (by simp (disch := (try simp only [sP]); omega) only [eV, g3]), rfl, hb⟩
end
end Go.Km
namespace Go.Km
open Go Go.RowKit
attribute [local irreducible] vc rO_ runG runS runD
section
variable {P : Program} {E : Env} {w : World} {U : Nat}
theorem s_write (H : SEnv P E) (HL : SLay P E) (HT : STexts P E) (hoM : offs P E.tMsg 2 = true) {fs : SFs} {sv : Value} {flex ver : Int} {t : Tr} {ts : List Value} (hsf : SlF w U sv fs) (hr : t.Rep w U ts) (hU : U ≤ w.heap.size)
  (hp : PartC P E ver (decide (flex ≥ 0) && decide (ver ≥ flex)) fs) (hbig : (fs.part ver (decide (flex ≥ 0) && decide (ver ≥ flex)) t).length ≤ big) :
  Gives P E E.sWrite U #[.agg [sv, .int .i64 flex].toArray, .int .i64 ver, .agg ts.toArray] (fs.part ver (decide (flex ≥ 0) && decide (ver ≥ flex)) t) w := by
 refine CallsV.enter HT.write (by simp) ?_
 intro a hsz hdf harg
 have e0 := harg 0 (.agg [sv, .int .i64 flex].toArray) (by simp)
 have e1 := harg 1 (.int .i64 ver) (by simp)
 have e2 := harg 2 (.agg ts.toArray) (by simp)
 unfold c_sWrite
 refine vX ?_
 refine r_box (v := .agg [sv, .int .i64 flex].toArray) (by simp (disch := (try simp only [sP]); omega) only [eV, e0]) ?_
 refine r_box (v := .agg ts.toArray) (by simp (disch := (try simp only [sP]); omega) only [eV, e2]) ?_
 refine rA (dn ?_)
 generalize hw1 : w.alloc (.cells (Value.agg [sv, .int .i64 flex].toArray).cells E.tMsg) = w1
 have hb1 : Below U w w1 := by rw [← hw1]; exact (Below.refl U w).alloc (o := .cells _ _) hU
 have hz1 : w1.heap.size = w.heap.size + 1 := by rw [← hw1]; simp
 have c1 : Cells w1 w.heap.size 0 [sv, .int .i64 flex] := by
  intro i v hv
  rw [← hw1, Nat.zero_add]
  exact cells_new w _ E.tMsg (by simpa [Value.cells] using hv)
 clear hw1
 generalize hw2 : w1.alloc (.cells (Value.agg ts.toArray).cells E.tT) = W
 have hb2 : Below U w W := by rw [← hw2]; exact hb1.trans ((Below.refl U w1).alloc (o := .cells _ _) (by omega))
 have d1 : Cells W w.heap.size 0 [sv, .int .i64 flex] := by rw [← hw2]; exact c1.eff (Eff.refl (fun _ _ => False) w1 |>.alloc _) (fun _ _ h => h)
 have d2 : Cells W w1.heap.size 0 ts := by
  intro i v hv
  rw [← hw2, Nat.zero_add]
  exact cells_new w1 _ E.tT (by simpa [Value.cells] using hv)
 clear hw2
 have k0 : W.cell? ⟨w.heap.size, 0 + 0, none⟩ = some sv := d1 0 sv rfl
 have k1 : W.cell? ⟨w.heap.size, 0 + 1, none⟩ = some (.int .i64 flex) := d1 1 _ rfl
 have hUW : U ≤ W.heap.size := Nat.le_trans hU hb2.size
 refine vS (vc_rgS [0, 1, 2, 3, 4, 5, 6, 7, 8, 9, 10, 11, 12, 13, 14] rfl ?_)
 refine rD rfl (wN rfl) (rF (b := w.heap.size) (o := 0) (by simp (disch := (try simp only [sP]); omega) only [eV]) (offs_inv hoM (by decide)) (dn (rT ?_)))
 refine rD rfl (wN rfl) (rL (b := w.heap.size) (o := 0 + 0) (by simp (disch := (try simp only [sP]); omega) only [eV]) H.oFlds k0 (dn (rT ?_)))
 (refine rD rfl (wN rfl) ?_; refine rM ?_; refine dn (rT ?_))
 refine rD rfl (wN rfl) (rF (b := w.heap.size) (o := 0) (by simp (disch := (try simp only [sP]); omega) only [eV]) (offs_inv hoM (by decide)) (dn (rT ?_)))
 refine rD rfl (wN rfl) (rL (b := w.heap.size) (o := 0 + 1) (by simp (disch := (try simp only [sP]); omega) only [eV]) H.oInt k1 (dn (rT ?_)))
 refine rD rfl (wN rfl) (r_geq (k := .i64) (m := flex) (n := 0) (by simp (disch := (try simp only [sP]); omega) only [eV]) rfl (dn (rT ?_)))
 (refine rD rfl (wN rfl) ?_; refine rM ?_; refine dn (rT ?_))
 by_cases h0 : flex ≥ 0
 ·have g0 : decide (flex ≥ 0) = true := by simpa using h0
  rw [g0, Bool.true_and] at hp hbig ⊢
  (refine rD rfl (by rw [wS (b := true) rfl rfl (by (try simp (disch := (try simp only [sP]); omega) only [eV]) <;> (first | rfl | assumption))]; rfl) ?_; refine rM ?_; refine dn (rT ?_))
  refine rD rfl (by rw [wS (b := true) rfl rfl (by (try simp (disch := (try simp only [sP]); omega) only [eV]) <;> (first | rfl | assumption))]; rfl) (rF (b := w.heap.size) (o := 0) (by simp (disch := (try simp only [sP]); omega) only [eV]) (offs_inv hoM (by decide)) (dn (rT ?_)))
  refine rD rfl (by rw [wS (b := true) rfl rfl (by (try simp (disch := (try simp only [sP]); omega) only [eV]) <;> (first | rfl | assumption))]; rfl) (rL (b := w.heap.size) (o := 0 + 1) (by simp (disch := (try simp only [sP]); omega) only [eV]) H.oInt k1 (dn (rT ?_)))
  refine rD rfl (by rw [wS (b := true) rfl rfl (by (try simp (disch := (try simp only [sP]); omega) only [eV]) <;> (first | rfl | assumption))]; rfl) (r_geq (k := .i64) (m := ver) (n := flex) (by simp (disch := (try simp only [sP]); omega) only [eV, e1]) (by simp (disch := (try simp only [sP]); omega) only [eV]) (dn (rT ?_)))
  (refine rD rfl (wN rfl) ?_; (refine r_pickT ?_ ?_; (try simp (disch := (try simp only [sP]); omega) only [eV]) <;> (first | rfl | assumption)); refine dn (rT ?_))
  refine rD rfl (wN rfl) (r_loadAgg (b := w1.heap.size) (o := 0) (cs := ts) (by simp (disch := (try simp only [sP]); omega) only [eV]) (by rw [hr.len]; exact H.aTree) d2 (dn (rT ?_)))
  refine rD rfl (wN rfl) ?_
  refine r_call' (args := #[sv, .int .i64 ver, .bool (decide (ver ≥ flex)), .agg ts.toArray]) ?_ (hp U W sv t ts hUW (hsf.below hb2) (hr.below hb2) hbig) ?_
  ·simp only [lM]
   simp (disch := (try simp only [sP]); omega) only [eV, e1]
  rintro v w2 ⟨h1, h2⟩
  refine dn (rT ?_)
  (refine rD rfl (wN rfl) ?_; refine rA ?_; refine dn (rT ?_))
  refine runS_nil ?_
  refine vT ?_
  exact ⟨by simp only [dF]; exact hdf, v, rO (by simp (disch := (try simp only [sP]); omega) only [eV]), h1, hb2.trans h2⟩
 ·have g0 : decide (flex ≥ 0) = false := by simpa using h0
  rw [g0, Bool.false_and] at hp hbig ⊢
  (refine runS_no rfl (by rw [wS (b := false) rfl rfl (by (try simp (disch := (try simp only [sP]); omega) only [eV]) <;> (first | rfl | assumption))]; rfl) ?_)
  (refine runS_no rfl (by rw [wS (b := false) rfl rfl (by (try simp (disch := (try simp only [sP]); omega) only [eV]) <;> (first | rfl | assumption))]; rfl) ?_)
  (refine runS_no rfl (by rw [wS (b := false) rfl rfl (by (try simp (disch := (try simp only [sP]); omega) only [eV]) <;> (first | rfl | assumption))]; rfl) ?_)
  (refine runS_no rfl (by rw [wS (b := false) rfl rfl (by (try simp (disch := (try simp only [sP]); omega) only [eV]) <;> (first | rfl | assumption))]; rfl) ?_)
  (refine rD rfl (wN rfl) ?_; (refine r_pickF ?_ ?_; (try simp (disch := (try simp only [sP]); omega) only [eV]) <;> (first | rfl | assumption)); refine dn (rT ?_))
  refine rD rfl (wN rfl) (r_loadAgg (b := w1.heap.size) (o := 0) (cs := ts) (by simp (disch := (try simp only [sP]); omega) only [eV]) (by rw [hr.len]; exact H.aTree) d2 (dn (rT ?_)))
  refine rD rfl (wN rfl) ?_
  refine r_call' (args := #[sv, .int .i64 ver, .bool false, .agg ts.toArray]) ?_ (hp U W sv t ts hUW (hsf.below hb2) (hr.below hb2) hbig) ?_
  ·simp only [lM]
   simp (disch := (try simp only [sP]); omega) only [eV, e1]
  rintro v w2 ⟨h1, h2⟩
  refine dn (rT ?_)
  (refine rD rfl (wN rfl) ?_; refine rA ?_; refine dn (rT ?_))
  refine runS_nil ?_
  refine vT ?_
  exact ⟨by simp only [dF]; exact hdf, v, rO (by simp (disch := (try simp only [sP]); omega) only [eV]), h1, hb2.trans h2⟩
end
end Go.Km
namespace Go.Km
open Go Go.RowKit
attribute [local irreducible] vc rO_ runG runS runD
def UnkC (P : Program) (E : Env) : Prop :=
 ∀ (U : Nat) (w : World) (sv uv : Value) (fs : SFs) (u : List (Nat × List UInt8)), U ≤ w.heap.size → SlF w U sv fs → (∀ t ∈ fs.tags, t < 65536) → fs.len ≤ big → UnkB w U uv u →
  CallsV P E.sUnknown #[sv, uv] w fun v w' => UnkB w' w'.heap.size v (unk (known fs.tags) u) ∧ Below U w w'
theorem insU_len (x : Nat × List UInt8) : ∀ l, (insU x l).length ≤ l.length + 1
 | [] => by simp [insU]
 | y :: r => by
  have := insU_len x r
  unfold insU
  split
  ·simp; exact this
  ·split <;> simp
theorem unk_len (least : Nat) (u : List (Nat × List UInt8)) : (unk least u).length ≤ 32767 := by
 unfold unk
 have : ∀ (v l : List (Nat × List UInt8)), (v.foldl (fun l x => if x.1 < least then l else insU x l) l).length ≤ l.length + v.length := by
  intro v
  induction v with
  | nil => exact fun l => Nat.le_refl _
  | cons x r ih =>
   intro l
   refine Nat.le_trans (ih _) ?_
   have := insU_len x l
   show (if x.1 < least then l else insU x l).length + r.length ≤ _
   rw [List.length_cons]
   split <;> omega
 refine Nat.le_trans (this _ _) ?_
 rw [List.length_take, List.length_nil]
 omega
theorem UnkB.form {w : World} {U : Nat} {v : Value} {u : List (Nat × List UInt8)} (h : UnkB w U v u) : ∃ ad cap, v = .slice ad u.length cap := by
 rcases h with ⟨⟨_, _, rfl⟩, rfl⟩ | ⟨q, o, cap, rfl, _⟩ <;> exact ⟨_, _, rfl⟩
theorem rowB_zero {P : Program} {t e : TypeId} {s : Nat} (h : rowB P t e s = true) : ∃ z, zeroT P e = some z ∧ z.cells.size = s := by
 obtain ⟨_, i, z, hi, _, _, hz, hzs, _⟩ := rowB_inv h
 exact ⟨z, by simp [zeroT, hi, hz], hzs⟩
theorem own_block_lt {w : World} {B : Nat} {e : TypeId} {s : Nat} {v : Value} {n : Nat} {xs : List Value} (h : w.ownsRow B e s v n xs) {g : Nat} (hg : v.ownBlock = some g) : g < w.heap.size := by
 rcases h.2 with ⟨rfl, _⟩ | ⟨g', cap, cur, rfl, _, h3, _⟩
 ·cases hg
 ·simp only [Value.ownBlock, Option.some.injEq] at hg
  subst hg
  exact (Array.getElem?_eq_some_iff.1 h3).1
theorem own_grown {w w' : World} {B : Nat} {e : TypeId} {s : Nat} {v v2 : Value} {n : Nat} {xs : List Value} (h : w.ownsRow B e s v n xs) (hg : w.grownBy w' v2.ownBlock) (hne : ∀ g, v2.ownBlock = some g → g < B) : w'.ownsRow B e s v n xs := by
 refine ⟨h.1, ?_⟩
 rcases h.2 with h | ⟨g, cap, cur, h1, h2, h3, h4⟩
 ·exact .inl h
 ·have hl : g < w.heap.size := (Array.getElem?_eq_some_iff.1 h3).1
  exact .inr ⟨g, cap, cur, h1, h2, by rw [hg.block g hl (fun he => by have := hne g he.symm; omega)]; exact h3, h4⟩
theorem Cells.grown {w w' : World} {b o : Nat} {cs : List Value} {row : Option Nat} (h : Cells w b o cs) (hg : w.grownBy w' row) (hb : b < w.heap.size) (hne : some b ≠ row) : Cells w' b o cs := by
 intro i v hv
 have := h i v hv
 have e : w'.heap[b]? = w.heap[b]? := hg.block b hb hne
 simp only [World.cell?] at this ⊢
 rw [e]
 exact this
section
variable {P : Program} {a : Act} {w : World} {r : List Oper} {Q : Exit → Act → World → Prop}
theorem r_appendG {d s x t tx ty p af g e sz U v n xs u m news} (hB : rowB P t e sz = true) (hs : a.eval s = v) (hx : a.eval x = u) (hown : w.ownsRow U e sz v n xs) (hU : U ≤ w.heap.size) (hsrc : Src P sz tx u m news w) (hb : n + m ≤ big)
  (h : ∀ v' w', w'.ownsRow U e sz v' (n + m) (xs ++ news) → Below U w w' → w.grownBy w' v.ownBlock → (∀ g, v'.ownBlock = some g → v.ownBlock = some g ∨ w.heap.size ≤ g) → rO_ P Q r (a.put (some d) v') w') :
  rO_ P Q (⟨some d, .call { callee := .builtin .append, args := #[s, x], argTypes := #[t, tx] }, ty, p, af, g⟩ :: r) a w := by
 refine st ?_
 obtain ⟨v', w', hr, h1, h2, h3⟩ := run_append_src w U t tx ty e sz hB v n xs hown u m news hsrc hb hU
 subst hs; subst hx
 simp only [Oper.wp, execOp, resolve, invoke, builtin, Sem.run_bind, Sem.run_pure, Result.andThen_ok, List.map_toArray, List.map_cons, List.map_nil, hr, Oper.upon_value]
 exact h v' w' h1 (below_grownBy hown h2 hU) h2 h3
end
section
variable {P : Program} {E : Env} {w : World} {U : Nat}
set_option maxHeartbeats 1000000 in
theorem s_partU (H : SEnv P E) (HT : STexts P E) (hunk : UnkC P E) {fs : SFs} {sv uv v9 : Value} {u : List (Nat × List UInt8)} {b : Nat} {A : Act} {W0 : World} {Q : Exit → Act → World → Prop} {xs : List UInt8}
  (hs : A.tmps.size = 132) (hd : A.defers = []) (f0 : A.eval (.tmp 0) = sv) (f7 : A.eval (.tmp 7) = .pointer (some ⟨b, 0, none⟩)) (f9 : A.eval (.tmp 9) = v9) (f10 : A.eval (.tmp 10) = .slice none 0 0) (f11 : A.eval (.tmp 11) = .int .i64 0)
  (hsf : SlF w U sv fs) (htg : ∀ t ∈ fs.tags, t < 65536) (hfl : fs.len ≤ big) (hc : W0.cell? ⟨b, 4, none⟩ = some uv) (hu : UnkB w U uv u) (hU : U ≤ w.heap.size) (hw : Below U w W0) (hown : W0.ownsRow U E.tU8 1 v9 xs.length (xs.map bv))
  {T : List UInt8} (hT : T = ((unk (known fs.tags) u).map fun x => wrTg x.1 (x.2.take 32767)).flatten) (hbig : (xs ++ Go.Km.uvar (unk (known fs.tags) u).length ++ T).length ≤ big)
  (hQ : ∀ a' w', Out P #[.tmp 8] (fun v w' => w'.ownsRow U E.tU8 1 v (xs ++ Go.Km.uvar (unk (known fs.tags) u).length ++ T).length ((xs ++ Go.Km.uvar (unk (known fs.tags) u).length ++ T).map bv) ∧ Below U w w') .ret a' w' → Q .ret a' w') :
  vc P (sq [
  (sq [(rg [(oQ 97 (.move (.tmp 0)) E.tFlds),
    (oQ 98 (.fieldAddr E.tT (.tmp 7) 4) 0),
    (oQ 99 (.load E.tK (.tmp 98)) E.tK),
    (oQ 100 (.call { callee := .value (.func E.sUnknown), args := #[(.tmp 97), (.tmp 99)], argTypes := #[E.tFlds, E.tK] }) E.tK),
    (oQ 101 (.call { callee := .builtin .len, args := #[(.tmp 100)], argTypes := #[E.tK] }) E.tI),
    (oQ 102 (.move (.const (.int .i64 0))) E.tI)]),
   (.block 6 (.loop (sq [(rg [(oQ 103 (.binOp .lss E.tI (.tmp 102) (.tmp 101) E.tI) 0)]),
      (.cond (.tmp 103)
       .skip
       (.exit 6)),
      (.block 7 (sq [(rg [(oQ 104 (.indexAddr E.tK (.tmp 100) (.tmp 102)) 0),
         (oQ 105 (.load E.tUnk (.tmp 104)) E.tUnk),
         (oQ 19 (.alloc E.tUnk) 0),
         ⟨none, .store E.tUnk (.tmp 19) (.tmp 105), 0, "", #[], none⟩]),
        (rg [(oQ 106 (.fieldAddr E.tUnk (.tmp 19) 1) 0),
         (oQ 107 (.load E.tB (.tmp 106)) E.tB),
         (oQ 108 (.call { callee := .value (.func E.sWhole), args := #[(.tmp 107)], argTypes := #[E.tB] }) E.tB),
         (oQ 20 (.assign (.tmp 108)) E.tB)]),
        (rg [(oQ 109 (.move (.tmp 10)) E.tB),
         (oQ 110 (.fieldAddr E.tUnk (.tmp 19) 0) 0),
         (oQ 111 (.load E.tW (.tmp 110)) E.tW),
         (oQ 112 (.convert E.tW E.tU64 (.tmp 111)) E.tU64),
         (oQ 113 (.call { callee := .value (.func E.sUvar), args := #[(.tmp 112)], argTypes := #[E.tU64] }) E.tB),
         (oQ 114 (.call { callee := .builtin .append, args := #[(.tmp 109), (.tmp 113)], argTypes := #[E.tB, E.tB] }) E.tB),
         (oQ 115 (.move (.tmp 20)) E.tB),
         (oQ 116 (.call { callee := .builtin .len, args := #[(.tmp 115)], argTypes := #[E.tB] }) E.tI),
         (oQ 117 (.convert E.tI E.tU64 (.tmp 116)) E.tU64),
         (oQ 118 (.call { callee := .value (.func E.sUvar), args := #[(.tmp 117)], argTypes := #[E.tU64] }) E.tB),
         (oQ 119 (.call { callee := .builtin .append, args := #[(.tmp 114), (.tmp 118)], argTypes := #[E.tB, E.tB] }) E.tB),
         (oQ 120 (.move (.tmp 20)) E.tB),
         (oQ 121 (.call { callee := .builtin .append, args := #[(.tmp 119), (.tmp 120)], argTypes := #[E.tB, E.tB] }) E.tB),
         (oQ 10 (.assign (.tmp 121)) E.tB)]),
        (rg [(oQ 122 (.move (.tmp 11)) E.tI),
         (oQ 123 (.binOp .add E.tI (.tmp 122) (.const (.int .i64 1)) E.tI) E.tI),
         (oQ 11 (.assign (.tmp 123)) E.tI)])])),
      (rg [(oQ 124 (.binOp .add E.tI (.tmp 102) (.const (.int .i64 1)) E.tI) E.tI),
       (oQ 102 (.move (.tmp 124)) E.tI)])])))]),
  (rg [(oQ 125 (.move (.tmp 9)) E.tB),
   (oQ 126 (.move (.tmp 11)) E.tI),
   (oQ 127 (.convert E.tI E.tU64 (.tmp 126)) E.tU64),
   (oQ 128 (.call { callee := .value (.func E.sUvar), args := #[(.tmp 127)], argTypes := #[E.tU64] }) E.tB),
   (oQ 129 (.call { callee := .builtin .append, args := #[(.tmp 125), (.tmp 128)], argTypes := #[E.tB, E.tB] }) E.tB),
   (oQ 130 (.move (.tmp 10)) E.tB),
   (oQ 131 (.call { callee := .builtin .append, args := #[(.tmp 129), (.tmp 130)], argTypes := #[E.tB, E.tB] }) E.tB),
   (oQ 8 (.assign (.tmp 131)) E.tB)]),
  .ret]) Q A W0 := by
 have hUW0 : U ≤ W0.heap.size := Nat.le_trans hU hw.size
 have hslU := rB H.rUnks
 have hslB := rB H.row
 obtain ⟨z, hz, hzc⟩ := rowB_zero H.rUnks
 have hun32 := unk_len (known fs.tags) u
 refine vS (vX (rM ?_))
 refine rF (b := b) (o := 0) (by simp (disch := (try simp only [sP]); omega) only [eV, f7]) (offs_inv H.fTree (by decide)) ?_
 refine rL (b := b) (o := 0 + 4) (by simp (disch := (try simp only [sP]); omega) only [eV]) H.oUnks (by simpa using hc) ?_
 refine r_call' (args := #[sv, uv]) ?_ (hunk W0.heap.size W0 sv uv fs u (Nat.le_refl _) ((hsf.below hw).mono hUW0) htg hfl ((hu.below hw).mono hUW0)) ?_
 ·simp only [lM]
  simp (disch := (try simp only [sP]); omega) only [eV, f0]
 rintro rv W2 ⟨hrv, hb2⟩
 generalize hun : unk (known fs.tags) u = un at *
 obtain ⟨ad, cap, hrvf⟩ := hrv.form
 refine r_len (ad := ad) (n := un.length) (c := cap) hslU (by simp (disch := (try simp only [sP]); omega) only [eV, hrvf]) ?_
 refine rM (dn ?_)
 have hUW2 : U ≤ W2.heap.size := Nat.le_trans hUW0 hb2.size
 have hown2 := own_below hown hb2
 refine vS (vc_block (vc_count (fun m B V => m ≤ un.length ∧ B.tmps.size = 132 ∧ B.defers = [] ∧ B.eval (.tmp 9) = v9 ∧ B.eval (.tmp 100) = rv ∧ B.eval (.tmp 101) = .int .i64 (un.length : Int) ∧ B.eval (.tmp 102) = .int .i64 ((un.length - m : Nat) : Int) ∧ B.eval (.tmp 11) = .int .i64 ((un.length - m : Nat) : Int) ∧
  W2.heap.size ≤ V.heap.size ∧ Below W2.heap.size W2 V ∧ ∃ ys : List UInt8, V.ownsRow W2.heap.size E.tU8 1 (B.eval (.tmp 10)) ys.length (ys.map bv) ∧ ys = ((un.take (un.length - m)).map fun x => wrTg x.1 (x.2.take 32767)).flatten) un.length ?_ ?_ ?_))
 ·refine ⟨Nat.le_refl _, by simp only [zP]; exact hs, by simp only [dF]; exact hd, (by simp (disch := (try simp only [sP]); omega) only [eV, f9]), (by simp (disch := (try simp only [sP]); omega) only [eV]), (by simp (disch := (try simp only [sP]); omega) only [eV]), ?_, ?_, Nat.le_refl _, Below.refl _ _, [], ?_, by simp⟩
  ·simp (disch := (try simp only [sP]); omega) only [eV]
   simp
  ·simp (disch := (try simp only [sP]); omega) only [eV, f11]
   simp
  ·rw [show Act.eval _ (.tmp 10) = Value.slice none 0 0 by simp (disch := (try simp only [sP]); omega) only [eV, f10]]
   exact World.ownsRow_nil _ _ _ _
 ·rintro m B V ⟨hm, hsB, hdB, g9, g100, g101, g102, g11, hWV, hbV, ys, hownY, hys⟩
  have hi : un.length - (m + 1) < un.length := by omega
  have him : un.length - m = (un.length - (m + 1)) + 1 := by omega
  rw [him]
  generalize hii : un.length - (m + 1) = i at *
  have hrV := hrv.below hbV
  obtain ⟨q, o, cap', hrv', hq, hel⟩ : ∃ q o cap, rv = .slice (some ⟨q, o, none⟩) un.length cap ∧ q < W2.heap.size ∧ ∀ (i : Nat) (x : Nat × List UInt8), un[i]? = some x → ∃ s, x.1 < 4294967296 ∧ Cells V q (o + i * 2) [.int .u32 x.1, s] ∧ OctsB V W2.heap.size s x.2 := by
   rcases hrV with ⟨_, h0⟩ | ⟨q, o, cap, h1, _, h2, h3⟩
   ·rw [h0] at hi; simp at hi
   ·exact ⟨q, o, cap, h1, h2, h3⟩
  obtain ⟨s, hkey, hcs, hoc⟩ := hel i un[i] (List.getElem?_eq_getElem hi)
  have hsucc := flat_succ un (fun x => wrTg x.1 (x.2.take 32767)) i hi
  have hle := flat_le un (fun x => wrTg x.1 (x.2.take 32767)) (i + 1)
  rw [hsucc, ← hys, ← hT] at hle
  rw [hsucc, ← hys]
  generalize hx : un[i] = x at *
  obtain ⟨key, oc⟩ := x
  simp only at hkey hcs hoc hle ⊢
  refine vX ?_
  refine r_lss (k := .i64) (m := (i : Int)) (n := (un.length : Int)) g102 g101 ?_
  refine dn ?_
  refine vS (vC (t := true) ?_ ?_ (fun h => by cases h))
  ·simp (disch := (try simp only [sP]); omega) only [eV]
   simp only [Value.bool.injEq, decide_eq_true_eq]
   omega
  intro _
  refine vK ?_
  refine vS (vc_block (vX ?_))
  refine r_index (k := .i64) (j := i) (b := q) (o := o) (len := un.length) (cap := cap') hslU (by simp (disch := (try simp only [sP]); omega) only [eV, g100, hrv']) (by simp (disch := (try simp only [sP]); omega) only [eV, g102]) hi ?_
  refine r_loadAgg (b := q) (o := o + i * 2) (cs := [.int .u32 key, s]) (by simp (disch := (try simp only [sP]); omega) only [eV]) H.aUnk hcs ?_
  refine r_alloc hz ?_
  have hs1 : s.oneCell' = true := hoc.one
  refine r_storeAgg (b := V.heap.size) (o := 0) (cs := [.int .u32 key, s]) (by simp (disch := (try simp only [sP]); omega) only [eV]) (by simp (disch := (try simp only [sP]); omega) only [eV]) (by intro v hv; simp only [List.mem_cons, List.not_mem_nil, or_false] at hv; rcases hv with rfl | rfl; rfl; exact hs1) H.aUnk ?_ ?_
  ·intro j hj
   rw [Nat.zero_add]
   exact free_new V _ _ (by rw [hzc]; simpa using hj)
  refine dn ?_
  have hcell : ∀ (j : Nat) (v : Value), [Value.int .u32 key, s][j]? = some v → (setCells (V.alloc (.cells z.cells E.tUnk)) V.heap.size 0 [.int .u32 key, s]).cell? ⟨V.heap.size, 0 + j, none⟩ = some v := fun j v hv => by
   refine setCells_cell V.heap.size [.int .u32 key, s] _ 0 (fun j hj => ?_) j v hv
   rw [Nat.zero_add]
   exact (free_new V z.cells E.tUnk (by rw [hzc]; simpa using hj)).1
  have k0 := hcell 0 _ rfl
  have k1 := hcell 1 _ rfl
  have hb3 : Below V.heap.size V (setCells (V.alloc (.cells z.cells E.tUnk)) V.heap.size 0 [.int .u32 key, s]) := by
   refine ((Below.refl V.heap.size V).alloc (o := .cells _ _) (Nat.le_refl _)).trans ((setCells_eff V.heap.size [.int .u32 key, s] _ 0).below (by simp) (by rintro k i hk ⟨rfl, _, _⟩; omega))
  generalize setCells (V.alloc (.cells z.cells E.tUnk)) V.heap.size 0 [.int .u32 key, s] = V1 at k0 k1 hb3 ⊢
  clear hcell
  obtain ⟨ad2, cap2, rfl, hcap2, htake⟩ := hoc.form
  have hlt : oc.take (min oc.length 32767) = oc.take 32767 := by
   rcases Nat.le_total oc.length 32767 with h | h
   ·rw [Nat.min_eq_left h, List.take_length, List.take_of_length_le h]
   ·rw [Nat.min_eq_right h]
  have hln : min oc.length 32767 = (oc.take 32767).length := by rw [List.length_take, Nat.min_comm]
  have ho2 : ∀ w2, Below W2.heap.size V w2 → OctsB w2 W2.heap.size (.slice ad2 (oc.take 32767).length cap2) (oc.take 32767) := by
   intro w2 hw2
   have := htake (min oc.length 32767) w2 (Nat.min_le_left _ _) hw2
   rwa [hlt, hln] at this
  have hol : (oc.take 32767).length ≤ 32767 := by rw [← hln]; exact Nat.min_le_right _ _
  refine vX ?_
  refine rF (b := V.heap.size) (o := 0) (by simp (disch := (try simp only [sP]); omega) only [eV]) (offs_inv H.fUnk (by decide)) ?_
  refine rL (b := V.heap.size) (o := 0 + 1) (by simp (disch := (try simp only [sP]); omega) only [eV]) H.oBytes k1 ?_
  refine r_call' (args := #[.slice ad2 oc.length cap2]) ?_ (s_first (T := E.tB) (e := E.tU8) (c := .skip) (.inl hslB) H.int hcap2 HT.whole) ?_
  ·simp only [lM]
   simp (disch := (try simp only [sP]); omega) only [eV]
  rintro v w' ⟨rfl, rfl⟩
  rw [hln]
  generalize oc.take 32767 = s8 at *
  clear hlt hln htake
  refine rA (dn (vX (rM ?_)))
  refine rF (b := V.heap.size) (o := 0) (by simp (disch := (try simp only [sP]); omega) only [eV]) (offs_inv H.fUnk (by decide)) ?_
  refine rL (b := V.heap.size) (o := 0 + 0) (by simp (disch := (try simp only [sP]); omega) only [eV]) H.oU32 k0 ?_
  refine r_conv (k := .u32) (k' := .u64) (m := (key : Int)) H.u32 H.u64 (by simp (disch := (try simp only [sP]); omega) only [eV]) ?_
  have hwk : IntKind.u64.wrap (key : Int) = (key : Int) := by rw [wrap_u64]; omega
  rw [hwk]
  refine r_call' (args := #[.int .u64 (key : Int)]) ?_ (s_uvar (U := V.heap.size) HT.uvar H.row H.u8 H.u64 (by omega) hb3.size) ?_
  ·simp only [lM]
   simp (disch := (try simp only [sP]); omega) only [eV]
  rintro v3 w3 ⟨h3, hb4⟩
  have hV3 := hb3.trans hb4
  have hownY3 := own_below hownY hV3
  have htot : ys.length + (Go.Km.uvar key).length + (Go.Km.uvar s8.length).length + s8.length ≤ big := by
   simp only [wrTg, List.length_append] at hle
   simp only [List.length_append] at hbig
   omega
  refine r_append (sz := 1) (U := W2.heap.size) (m := (Go.Km.uvar key).length) (news := (Go.Km.uvar key).map bv) H.row (by simp (disch := (try simp only [sP]); omega) only [eV]) (by simp (disch := (try simp only [sP]); omega) only [eV]) hownY3 (Nat.le_trans hWV hV3.size) (src_own hslB h3 (bv_one _)) (by omega) ?_
  intro v5 w5 h5 hb5
  rw [← List.length_append, ← List.map_append] at h5
  have hV5 : Below W2.heap.size V w5 := (hV3.mono hWV).trans hb5
  refine rM ?_
  refine r_len (ad := ad2) (n := s8.length) (c := cap2) hslB (by simp (disch := (try simp only [sP]); omega) only [eV]) ?_
  refine r_conv (k := .i64) (k' := .u64) (m := (s8.length : Int)) H.int H.u64 (by simp (disch := (try simp only [sP]); omega) only [eV]) ?_
  have hwk2 : IntKind.u64.wrap (s8.length : Int) = (s8.length : Int) := by rw [wrap_u64]; omega
  rw [hwk2]
  refine r_call' (args := #[.int .u64 (s8.length : Int)]) ?_ (s_uvar (U := w5.heap.size) HT.uvar H.row H.u8 H.u64 (by omega) (Nat.le_refl _)) ?_
  ·simp only [lM]
   simp (disch := (try simp only [sP]); omega) only [eV]
  rintro v6 w6 ⟨h6, hb6⟩
  have hW5 : W2.heap.size ≤ w5.heap.size := Nat.le_trans hWV hV5.size
  have h56 := own_below h5 hb6
  refine r_append (sz := 1) (U := W2.heap.size) (m := (Go.Km.uvar s8.length).length) (news := (Go.Km.uvar s8.length).map bv) H.row (by simp (disch := (try simp only [sP]); omega) only [eV]) (by simp (disch := (try simp only [sP]); omega) only [eV]) h56 (Nat.le_trans hW5 hb6.size) (src_own hslB h6 (bv_one _)) (by rw [List.length_append]; omega) ?_
  intro v7 w7 h7 hb7
  rw [← List.length_append, ← List.map_append] at h7
  have hV7 : Below W2.heap.size V w7 := (hV5.trans (hb6.mono hW5)).trans hb7
  refine rM ?_
  refine r_append (sz := 1) (U := W2.heap.size) (m := s8.length) (news := s8.map bv) H.row (by simp (disch := (try simp only [sP]); omega) only [eV]) (by simp (disch := (try simp only [sP]); omega) only [eV]) h7 (Nat.le_trans hWV hV7.size) ((ho2 w7 hV7).src hslB) (by rw [List.length_append, List.length_append]; omega) ?_
  intro v8 w8 h8 hb8
  rw [← List.length_append, ← List.map_append] at h8
  have hV8 : Below W2.heap.size V w8 := hV7.trans hb8
  refine rA (dn (vX (rM ?_)))
  refine r_add (k := .i64) (m := (i : Int)) (n := 1) (by simp (disch := (try simp only [sP]); omega) only [eV, g11]) rfl ?_
  refine rA (dn (vN (vX ?_)))
  refine r_add (k := .i64) (m := (i : Int)) (n := 1) (by simp (disch := (try simp only [sP]); omega) only [eV, g102]) rfl ?_
  refine rM (dn (vN ?_))
  have hwi : IntKind.i64.wrap ((i : Int) + 1) = ((i + 1 : Nat) : Int) := by rw [wrap_i64 (by omega) (by omega)]; rfl
  refine ⟨by omega, by simp only [zP]; exact hsB, by simp only [dF]; exact hdB, (by simp (disch := (try simp only [sP]); omega) only [eV, g9]), (by simp (disch := (try simp only [sP]); omega) only [eV, g100]), (by simp (disch := (try simp only [sP]); omega) only [eV, g101]), ?_, ?_, Nat.le_trans hWV hV8.size, hbV.trans hV8, ys ++ wrTg key s8, ?_, rfl⟩
  ·simp (disch := (try simp only [sP]); omega) only [eV]
   rw [hwi]
  ·simp (disch := (try simp only [sP]); omega) only [eV]
   rw [hwi]
  ·rw [show Act.eval _ (.tmp 10) = v8 by simp (disch := (try simp only [sP]); omega) only [eV]]
   unfold wrTg
   rw [← List.append_assoc, ← List.append_assoc]
   exact h8
 ·rintro B V ⟨hm, hsB, hdB, g9, g100, g101, g102, g11, hWV, hbV, ys, hownY, hys⟩
  rw [Nat.sub_zero, List.take_length, ← hT] at hys
  subst hys
  rw [Nat.sub_zero] at g102 g11
  refine vX ?_
  refine r_lss (k := .i64) (m := (un.length : Int)) (n := (un.length : Int)) g102 g101 ?_
  refine dn ?_
  refine vS (vC (t := false) ?_ (fun h => by cases h) ?_)
  ·simp (disch := (try simp only [sP]); omega) only [eV]
   simp only [Value.bool.injEq, decide_eq_false_iff_not]
   omega
  intro _
  refine vc_exit ?_
  simp only [Exit.then, Exit.inBlock, if_true]
  refine vN (vX (rM (rM ?_)))
  refine r_conv (k := .i64) (k' := .u64) (m := (un.length : Int)) H.int H.u64 (by simp (disch := (try simp only [sP]); omega) only [eV, g11]) ?_
  have hwk2 : IntKind.u64.wrap (un.length : Int) = (un.length : Int) := by rw [wrap_u64]; omega
  rw [hwk2]
  refine r_call' (args := #[.int .u64 (un.length : Int)]) ?_ (s_uvar (U := V.heap.size) HT.uvar H.row H.u8 H.u64 (by omega) (Nat.le_refl _)) ?_
  ·simp only [lM]
   simp (disch := (try simp only [sP]); omega) only [eV]
  rintro v3 w3 ⟨h3, hb3⟩
  have hown3 := own_below hown2 (hbV.trans (hb3.mono hWV))
  have hownY3 := own_below hownY hb3
  have hUV : U ≤ V.heap.size := Nat.le_trans hUW2 hWV
  refine r_appendG (sz := 1) (U := U) (v := v9) (m := (Go.Km.uvar un.length).length) (news := (Go.Km.uvar un.length).map bv) H.row (by simp (disch := (try simp only [sP]); omega) only [eV, g9]) (by simp (disch := (try simp only [sP]); omega) only [eV]) hown3 (Nat.le_trans hUV hb3.size) (src_own hslB h3 (bv_one _)) (by simp only [List.length_append] at hbig; omega) ?_
  intro v5 w5 h5 hb5 hg5 _
  rw [← List.length_append, ← List.map_append] at h5
  have hownY5 := own_grown hownY3 hg5 (fun g hg => own_block_lt hown2 hg)
  refine rM ?_
  refine r_append (sz := 1) (U := U) (m := ys.length) (news := ys.map bv) H.row (by simp (disch := (try simp only [sP]); omega) only [eV]) (by simp (disch := (try simp only [sP]); omega) only [eV]) h5 (Nat.le_trans (Nat.le_trans hUV hb3.size) hb5.size) (src_own hslB hownY5 (bv_one _)) (by rw [← List.length_append]; exact hbig) ?_
  intro v7 w7 h7 hb7
  rw [← List.length_append, ← List.map_append] at h7
  refine rA (dn (vS (vT ?_)))
  exact hQ _ _ ⟨by simp only [dF]; exact hdB, v7, rO (by simp (disch := (try simp only [sP]); omega) only [eV]), h7, ((((hw.trans (hb2.mono hUW0)).trans (hbV.mono hUW2)).trans (hb3.mono hUV)).trans hb5).trans hb7⟩
end
end Go.Km
namespace Go.Km
open Go Go.RowKit
attribute [local irreducible] vc rO_ runG runS runD
theorem known_neg (l : List Int) (h : ∀ t ∈ l, t < 0) : known l = 0 := by
 have := known_lt (B := 0) l (by simpa using h)
 omega
theorem SFs.recs_len (v : Int) (fx : Bool) : ∀ (fs : SFs) (k : Nat) (t : Tr), (fs.recs v fx k t).length = fs.len
 | .nil, _, _ => by simp [SFs.recs, SFs.len]
 | .cons f r, k, t => by simp [SFs.recs, SFs.len, SFs.recs_len v fx r]
theorem SFs.recs_get (v : Int) (fx : Bool) : ∀ (fs : SFs) (k i : Nat) (t : Tr) (f : SF), fs.get i = some f → (fs.recs v fx k t)[i]? = some (f.tag, f.has v, f.usual (t.at (k + i)), f.wr v fx (t.at (k + i)))
 | .nil, _, _, _, _, h => by cases h
 | .cons (.mk _ _ _ _ _ _ _ _) r, k, 0, t, f, h => by
  simp only [SFs.get, Option.some.injEq] at h
  subst h
  simp [SFs.recs, SF.tag]
 | .cons (.mk _ _ _ _ _ _ _ _) r, k, i + 1, t, f, h => by
  simp only [SFs.get] at h
  have := SFs.recs_get v fx r (k + 1) i t f h
  rw [show k + 1 + i = k + (i + 1) by omega] at this
  simpa [SFs.recs] using this
theorem SFs.recs_tags (v : Int) (fx : Bool) : ∀ (fs : SFs) (k : Nat) (t : Tr), (fs.recs v fx k t).map (·.1) = fs.tags
 | .nil, _, _ => by simp [SFs.recs, SFs.tags]
 | .cons (.mk _ _ _ _ _ _ _ _) r, k, t => by simp [SFs.recs, SFs.tags, SFs.recs_tags v fx r]
def Rec.out (r : Rec) : List UInt8 := if r.1 < 0 && r.2.1 then r.2.2.2 else []
def Tr.tags : Tr → List (Nat × List UInt8)
 | .mk _ _ _ _ u => u
theorem SFs.part_eq {v : Int} {fx : Bool} {fs : SFs} {t : Tr} (hnt : ∀ t ∈ fs.tags, t < 0) :
  fs.part v fx t = if fx then ((fs.recs v fx 0 t).map Rec.out).flatten ++ Go.Km.uvar (unk (known fs.tags) t.tags).length ++ ((unk (known fs.tags) t.tags).map fun x => wrTg x.1 (x.2.take 32767)).flatten else ((fs.recs v fx 0 t).map Rec.out).flatten := by
 cases t with
 | mk n s nl l u =>
 unfold SFs.part assemble
 simp only [SFs.recs_tags, known_neg _ hnt, List.range_zero, List.flatMap_nil, List.nil_append, List.length_nil, Nat.zero_add, List.length_map, List.map_map, Tr.tags]
 rfl
section
variable {P : Program} {E : Env} {w : World} {U : Nat}
theorem s_partM (H : SEnv P E) (HL : SLay P E) (HT : STexts P E) (hunk : UnkC P E) {fs : SFs} {sv uv v9 : Value} {u : List (Nat × List UInt8)} {b : Nat} {A : Act} {W0 : World} {Q : Exit → Act → World → Prop} {xs : List UInt8} {fx : Bool}
  (hs : A.tmps.size = 132) (hd : A.defers = []) (f0 : A.eval (.tmp 0) = sv) (f2 : A.eval (.tmp 2) = .bool fx) (f7 : A.eval (.tmp 7) = .pointer (some ⟨b, 0, none⟩)) (f9 : A.eval (.tmp 9) = v9) (f10 : A.eval (.tmp 10) = .slice none 0 0) (f11 : A.eval (.tmp 11) = .int .i64 0)
  (hsf : SlF w U sv fs) (hnt : ∀ t ∈ fs.tags, t < 0) (hfl : fs.len ≤ big) (hbW : b < W0.heap.size) (hc : W0.cell? ⟨b, 4, none⟩ = some uv) (hu : UnkB w U uv u) (hU : U ≤ w.heap.size) (hw : Below U w W0) (hown : W0.ownsRow U E.tU8 1 v9 xs.length (xs.map bv))
  {R : List UInt8} (hR : R = if fx then xs ++ Go.Km.uvar (unk (known fs.tags) u).length ++ ((unk (known fs.tags) u).map fun x => wrTg x.1 (x.2.take 32767)).flatten else xs) (hbig : R.length ≤ big)
  (hQ : ∀ a' w', Out P #[.tmp 8] (fun v w' => w'.ownsRow U E.tU8 1 v R.length (R.map bv) ∧ Below U w w') .ret a' w' → Q .ret a' w') :
  vc P (sq [
  (sq [(rg [(oQ 46 (.move (.tmp 2)) E.tO),
    (oQ 47 (.unOp .not E.tO (.tmp 46)) E.tO)]),
   (.cond (.tmp 47)
    (sq [(rg [(oQ 48 (.move (.tmp 9)) E.tB),
      (oQ 8 (.assign (.tmp 48)) E.tB)]),
     .ret])
    .skip)]),
  (sq [(rg [(oQ 49 (.move (.tmp 0)) E.tFlds),
    (oQ 50 (.call { callee := .value (.func E.sKnown), args := #[(.tmp 49)], argTypes := #[E.tFlds] }) E.tW),
    (oQ 51 (.convert E.tW E.tI (.tmp 50)) E.tI),
    (oQ 52 (.move (.const (.int .i64 0))) E.tI)]),
   (.block 2 (.loop (sq [(rg [(oQ 53 (.binOp .lss E.tI (.tmp 52) (.tmp 51) E.tI) E.tO)]),
      (.cond (.tmp 53)
       .skip
       (.exit 2)),
      (.block 3 (sq [(rg [(oQ 54 (.move (.tmp 52)) E.tI),
         (oQ 14 (.assign (.tmp 54)) E.tI)]),
        (rg [(oQ 55 (.move (.tmp 0)) E.tFlds),
         (oQ 56 (.call { callee := .builtin .len, args := #[(.tmp 55)], argTypes := #[E.tFlds] }) E.tI),
         (oQ 57 (.move (.const (.int .i64 0))) E.tI)]),
        (.block 4 (.loop (sq [(rg [(oQ 58 (.binOp .lss E.tI (.tmp 57) (.tmp 56) E.tI) 0)]),
           (.cond (.tmp 58)
            .skip
            (.exit 4)),
           (.block 5 (sq [(rg [(oQ 59 (.move (.tmp 57)) E.tI),
              (oQ 60 (.indexAddr E.tFlds (.tmp 55) (.tmp 57)) 0),
              (oQ 61 (.load E.tFld (.tmp 60)) E.tFld),
              (oQ 16 (.alloc E.tFld) 0),
              (oQ 15 (.assign (.tmp 59)) E.tI),
              ⟨none, .store E.tFld (.tmp 16) (.tmp 61), 0, "", #[], none⟩]),
             (rgd [(oQ 62 (.fieldAddr E.tFld (.tmp 16) 4) 0),
              ⟨some 63, .load E.tI (.tmp 62), E.tI, "", #[⟨0, .data⟩], none⟩,
              (oQ 64 (.move (.tmp 14)) E.tI),
              ⟨some 65, .binOp .eql E.tI (.tmp 63) (.tmp 64) E.tI, E.tO, "", #[⟨1, .data⟩, ⟨2, .data⟩], none⟩,
              ⟨some 66, .move (.tmp 65), E.tO, "", #[⟨3, .data⟩], none⟩,
              ⟨some 67, .load E.tFld (.tmp 16), E.tFld, "", #[⟨4, .guard⟩], some (4, true)⟩,
              ⟨some 68, .load E.tT (.tmp 7), E.tT, "", #[⟨4, .guard⟩], some (4, true)⟩,
              ⟨some 69, .move (.tmp 15), E.tI, "", #[⟨4, .guard⟩], some (4, true)⟩,
              ⟨some 70, .call { callee := .value (.func E.sAt), args := #[(.tmp 68), (.tmp 69)], argTypes := #[E.tT, E.tI] }, E.tT, "", #[⟨6, .data⟩, ⟨7, .data⟩, ⟨4, .chain⟩, ⟨4, .guard⟩], some (4, true)⟩,
              ⟨some 71, .call { callee := .value (.func E.sUsual), args := #[(.tmp 67), (.tmp 70)], argTypes := #[E.tFld, E.tT] }, E.tO, "", #[⟨5, .data⟩, ⟨8, .data⟩, ⟨8, .chain⟩, ⟨4, .guard⟩], some (4, true)⟩,
              ⟨some 72, .unOp .not E.tO (.tmp 71), E.tO, "", #[⟨9, .data⟩, ⟨4, .guard⟩], some (4, true)⟩,
              ⟨some 73, .pick (.tmp 66) (.tmp 72) (.const (.bool false)), E.tO, "", #[⟨4, .data⟩, ⟨10, .data⟩], none⟩]),
             (.cond (.tmp 73)
              (sq [(rgd [(oQ 74 (.load E.tFld (.tmp 16)) E.tFld),
                (oQ 75 (.move (.tmp 1)) E.tI),
                (oQ 76 (.move (.tmp 2)) E.tO),
                (oQ 77 (.load E.tT (.tmp 7)) E.tT),
                (oQ 78 (.move (.tmp 15)) E.tI),
                ⟨some 79, .call { callee := .value (.func E.sAt), args := #[(.tmp 77), (.tmp 78)], argTypes := #[E.tT, E.tI] }, E.tT, "", #[⟨3, .data⟩, ⟨4, .data⟩], none⟩,
                ⟨some 80, .call { callee := .value (.func E.sField), args := #[(.tmp 74), (.tmp 75), (.tmp 76), (.tmp 79)], argTypes := #[E.tFld, E.tI, E.tO, E.tT] }, E.tB, "", #[⟨0, .data⟩, ⟨1, .data⟩, ⟨2, .data⟩, ⟨5, .data⟩, ⟨5, .chain⟩], none⟩,
                ⟨some 17, .assign (.tmp 80), E.tB, "", #[⟨6, .data⟩, ⟨6, .chain⟩, ⟨0, .phase⟩, ⟨1, .phase⟩, ⟨2, .phase⟩, ⟨3, .phase⟩, ⟨4, .phase⟩, ⟨5, .phase⟩, ⟨6, .phase⟩], none⟩]),
               (rg [(oQ 81 (.move (.tmp 10)) E.tB),
                (oQ 82 (.move (.tmp 14)) E.tI),
                (oQ 83 (.convert E.tI E.tU64 (.tmp 82)) E.tU64),
                (oQ 84 (.call { callee := .value (.func E.sUvar), args := #[(.tmp 83)], argTypes := #[E.tU64] }) E.tB),
                (oQ 85 (.call { callee := .builtin .append, args := #[(.tmp 81), (.tmp 84)], argTypes := #[E.tB, E.tB] }) E.tB),
                (oQ 86 (.move (.tmp 17)) E.tB),
                (oQ 87 (.call { callee := .builtin .len, args := #[(.tmp 86)], argTypes := #[E.tB] }) E.tI),
                (oQ 88 (.convert E.tI E.tU64 (.tmp 87)) E.tU64),
                (oQ 89 (.call { callee := .value (.func E.sUvar), args := #[(.tmp 88)], argTypes := #[E.tU64] }) E.tB),
                (oQ 90 (.call { callee := .builtin .append, args := #[(.tmp 85), (.tmp 89)], argTypes := #[E.tB, E.tB] }) E.tB),
                (oQ 91 (.move (.tmp 17)) E.tB),
                (oQ 92 (.call { callee := .builtin .append, args := #[(.tmp 90), (.tmp 91)], argTypes := #[E.tB, E.tB] }) E.tB),
                (oQ 10 (.assign (.tmp 92)) E.tB)]),
               (rg [(oQ 93 (.move (.tmp 11)) E.tI),
                (oQ 94 (.binOp .add E.tI (.tmp 93) (.const (.int .i64 1)) E.tI) E.tI),
                (oQ 11 (.assign (.tmp 94)) E.tI)])])
              .skip)])),
           (rg [(oQ 95 (.binOp .add E.tI (.tmp 57) (.const (.int .i64 1)) E.tI) E.tI),
            (oQ 57 (.move (.tmp 95)) E.tI)])])))])),
      (rg [(oQ 96 (.binOp .add E.tI (.tmp 52) (.const (.int .i64 1)) E.tI) E.tI),
       (oQ 52 (.move (.tmp 96)) E.tI)])])))]),
  (sq [(rg [(oQ 97 (.move (.tmp 0)) E.tFlds),
    (oQ 98 (.fieldAddr E.tT (.tmp 7) 4) 0),
    (oQ 99 (.load E.tK (.tmp 98)) E.tK),
    (oQ 100 (.call { callee := .value (.func E.sUnknown), args := #[(.tmp 97), (.tmp 99)], argTypes := #[E.tFlds, E.tK] }) E.tK),
    (oQ 101 (.call { callee := .builtin .len, args := #[(.tmp 100)], argTypes := #[E.tK] }) E.tI),
    (oQ 102 (.move (.const (.int .i64 0))) E.tI)]),
   (.block 6 (.loop (sq [(rg [(oQ 103 (.binOp .lss E.tI (.tmp 102) (.tmp 101) E.tI) 0)]),
      (.cond (.tmp 103)
       .skip
       (.exit 6)),
      (.block 7 (sq [(rg [(oQ 104 (.indexAddr E.tK (.tmp 100) (.tmp 102)) 0),
         (oQ 105 (.load E.tUnk (.tmp 104)) E.tUnk),
         (oQ 19 (.alloc E.tUnk) 0),
         ⟨none, .store E.tUnk (.tmp 19) (.tmp 105), 0, "", #[], none⟩]),
        (rg [(oQ 106 (.fieldAddr E.tUnk (.tmp 19) 1) 0),
         (oQ 107 (.load E.tB (.tmp 106)) E.tB),
         (oQ 108 (.call { callee := .value (.func E.sWhole), args := #[(.tmp 107)], argTypes := #[E.tB] }) E.tB),
         (oQ 20 (.assign (.tmp 108)) E.tB)]),
        (rg [(oQ 109 (.move (.tmp 10)) E.tB),
         (oQ 110 (.fieldAddr E.tUnk (.tmp 19) 0) 0),
         (oQ 111 (.load E.tW (.tmp 110)) E.tW),
         (oQ 112 (.convert E.tW E.tU64 (.tmp 111)) E.tU64),
         (oQ 113 (.call { callee := .value (.func E.sUvar), args := #[(.tmp 112)], argTypes := #[E.tU64] }) E.tB),
         (oQ 114 (.call { callee := .builtin .append, args := #[(.tmp 109), (.tmp 113)], argTypes := #[E.tB, E.tB] }) E.tB),
         (oQ 115 (.move (.tmp 20)) E.tB),
         (oQ 116 (.call { callee := .builtin .len, args := #[(.tmp 115)], argTypes := #[E.tB] }) E.tI),
         (oQ 117 (.convert E.tI E.tU64 (.tmp 116)) E.tU64),
         (oQ 118 (.call { callee := .value (.func E.sUvar), args := #[(.tmp 117)], argTypes := #[E.tU64] }) E.tB),
         (oQ 119 (.call { callee := .builtin .append, args := #[(.tmp 114), (.tmp 118)], argTypes := #[E.tB, E.tB] }) E.tB),
         (oQ 120 (.move (.tmp 20)) E.tB),
         (oQ 121 (.call { callee := .builtin .append, args := #[(.tmp 119), (.tmp 120)], argTypes := #[E.tB, E.tB] }) E.tB),
         (oQ 10 (.assign (.tmp 121)) E.tB)]),
        (rg [(oQ 122 (.move (.tmp 11)) E.tI),
         (oQ 123 (.binOp .add E.tI (.tmp 122) (.const (.int .i64 1)) E.tI) E.tI),
         (oQ 11 (.assign (.tmp 123)) E.tI)])])),
      (rg [(oQ 124 (.binOp .add E.tI (.tmp 102) (.const (.int .i64 1)) E.tI) E.tI),
       (oQ 102 (.move (.tmp 124)) E.tI)])])))]),
  (rg [(oQ 125 (.move (.tmp 9)) E.tB),
   (oQ 126 (.move (.tmp 11)) E.tI),
   (oQ 127 (.convert E.tI E.tU64 (.tmp 126)) E.tU64),
   (oQ 128 (.call { callee := .value (.func E.sUvar), args := #[(.tmp 127)], argTypes := #[E.tU64] }) E.tB),
   (oQ 129 (.call { callee := .builtin .append, args := #[(.tmp 125), (.tmp 128)], argTypes := #[E.tB, E.tB] }) E.tB),
   (oQ 130 (.move (.tmp 10)) E.tB),
   (oQ 131 (.call { callee := .builtin .append, args := #[(.tmp 129), (.tmp 130)], argTypes := #[E.tB, E.tB] }) E.tB),
   (oQ 8 (.assign (.tmp 131)) E.tB)]),
  .ret]) Q A W0 := by
 have hUW0 : U ≤ W0.heap.size := Nat.le_trans hU hw.size
 refine vS (vX (rM ?_))
 refine r_not (b := fx) (by simp (disch := (try simp only [sP]); omega) only [eV, f2]) ?_
 refine dn ?_
 cases fx with
 | false =>
  simp only [Bool.false_eq_true, if_false] at hR
  subst hR
  refine vS (vC (t := true) (by (try simp (disch := (try simp only [sP]); omega) only [eV]) <;> (first | rfl | assumption)) ?_ (fun h => by cases h))
  intro _
  refine vX (rM (rA (dn (vS (vT ?_)))))
  exact hQ _ _ ⟨by simp only [dF]; exact hd, v9, rO (by simp (disch := (try simp only [sP]); omega) only [eV, f9]), hown, hw⟩
 | true =>
  simp only [if_true] at hR
  refine vS (vC (t := false) (by (try simp (disch := (try simp only [sP]); omega) only [eV]) <;> (first | rfl | assumption)) (fun h => by cases h) ?_)
  intro _
  refine vK (vN (vS (vX (rM ?_))))
  refine r_call' (args := #[sv]) ?_ (s_known (U := W0.heap.size) H HL HT ((hsf.below hw).mono hUW0) (Nat.le_refl _) (fun t ht => by have := hnt t ht; omega) hfl) ?_
  ·simp only [lM]
   simp (disch := (try simp only [sP]); omega) only [eV, f0]
  rintro v W1 ⟨rfl, hb1⟩
  rw [known_neg _ hnt] at *
  refine r_conv (k := .u32) (k' := .i64) (m := ((0 : Nat) : Int)) H.u32 H.int (by simp (disch := (try simp only [sP]); omega) only [eV]) ?_
  have hw0 : IntKind.i64.wrap ((0 : Nat) : Int) = 0 := by rw [wrap_i64 (by omega) (by omega)]; rfl
  rw [hw0]
  refine rM (dn ?_)
  have hown1 := own_below hown hb1
  have hc1 : W1.cell? ⟨b, 4, none⟩ = some uv := by rw [hb1.cell (p := ⟨b, 4, none⟩) hbW]; exact hc
  have hw1 : Below U w W1 := hw.trans (hb1.mono hUW0)
  refine vS (vc_block (vc_count (fun m B V => V = W1 ∧ m = 0 ∧ B.tmps.size = 132 ∧ B.defers = [] ∧ B.eval (.tmp 0) = sv ∧ B.eval (.tmp 7) = .pointer (some ⟨b, 0, none⟩) ∧ B.eval (.tmp 9) = v9 ∧ B.eval (.tmp 10) = .slice none 0 0 ∧ B.eval (.tmp 11) = .int .i64 0 ∧ B.eval (.tmp 51) = .int .i64 0 ∧ B.eval (.tmp 52) = .int .i64 0) 0 ?_ ?_ ?_))
  ·exact ⟨rfl, rfl, by simp only [zP]; exact hs, by simp only [dF]; exact hd, (by simp (disch := (try simp only [sP]); omega) only [eV, f0]), (by simp (disch := (try simp only [sP]); omega) only [eV, f7]), (by simp (disch := (try simp only [sP]); omega) only [eV, f9]), (by simp (disch := (try simp only [sP]); omega) only [eV, f10]), (by simp (disch := (try simp only [sP]); omega) only [eV, f11]), (by simp (disch := (try simp only [sP]); omega) only [eV]), (by simp (disch := (try simp only [sP]); omega) only [eV])⟩
  ·rintro m B V ⟨_, h, _⟩
   omega
  ·rintro B V ⟨rfl, _, hsB, hdB, g0, g7, g9, g10, g11, g51, g52⟩
   refine vX ?_
   refine r_lss (k := .i64) (m := 0) (n := 0) g52 g51 ?_
   refine dn ?_
   refine vS (vC (t := false) (by (try simp (disch := (try simp only [sP]); omega) only [eV]) <;> (first | rfl | assumption)) (fun h => by cases h) ?_)
   intro _
   refine vc_exit ?_
   simp only [Exit.then, Exit.inBlock, if_true]
   refine vN ?_
   have htags : known fs.tags = 0 := known_neg _ hnt
   refine s_partU (fs := fs) (sv := sv) (uv := uv) (u := u) (b := b) H HT hunk (by simp only [zP]; exact hsB) (by simp only [dF]; exact hdB) (by simp (disch := (try simp only [sP]); omega) only [eV, g0]) (by simp (disch := (try simp only [sP]); omega) only [eV, g7]) (by simp (disch := (try simp only [sP]); omega) only [eV, g9]) (by simp (disch := (try simp only [sP]); omega) only [eV, g10]) (by simp (disch := (try simp only [sP]); omega) only [eV, g11]) hsf (fun t ht => by have := hnt t ht; omega) hfl hc1 hu hU hw1 hown1 rfl ?_ ?_
   ·rw [htags, ← hR]; exact hbig
   ·rw [htags, ← hR]; exact hQ
set_option maxHeartbeats 1000000 in
theorem s_part (H : SEnv P E) (HL : SLay P E) (HT : STexts P E) (hunk : UnkC P E) {ver : Int} {fx : Bool} {fs : SFs} (hnt : ∀ t ∈ fs.tags, t < 0) (hfl : fs.len ≤ big) (hfc : ∀ i f, fs.get i = some f → FieldC P E ver fx f) : PartC P E ver fx fs := by
 intro U w sv t ts hU hsf hrt hbig
 have hfl' : fs.len ≤ big := hfl
 unfold big at hfl
 refine CallsV.enter HT.part (by simp) ?_
 intro a hsz hdf harg
 have e0 := harg 0 sv (by simp)
 have e1 := harg 1 (.int .i64 ver) (by simp)
 have e2 := harg 2 (.bool fx) (by simp)
 have e3 := harg 3 (.agg ts.toArray) (by simp)
 obtain ⟨z, hz, hzc⟩ := lays_zero HL.fld
 unfold c_sPart
 refine vX ?_
 refine r_box (v := .agg ts.toArray) (by simp (disch := (try simp only [sP]); omega) only [eV, e3]) ?_
 refine rA (dn ?_)
 generalize hw1 : w.alloc (.cells (Value.agg ts.toArray).cells E.tT) = W1
 have hb1 : Below U w W1 := by rw [← hw1]; exact (Below.refl U w).alloc (o := .cells _ _) hU
 have hz1 : W1.heap.size = w.heap.size + 1 := by rw [← hw1]; simp
 have c1 : Cells W1 w.heap.size 0 ts := by
  intro i v hv
  rw [← hw1, Nat.zero_add]
  exact cells_new w _ E.tT (by simpa [Value.cells] using hv)
 clear hw1
 generalize hbb : w.heap.size = b at *
 have hUW1 : U ≤ W1.heap.size := by omega
 refine vX (rA (rA (dn (vX (rA (dn ?_))))))
 have hpe := SFs.part_eq (v := ver) (fx := fx) (t := t) hnt
 generalize hrs : fs.recs ver fx 0 t = rs at hpe
 have hrl : rs.length = fs.len := by rw [← hrs]; exact SFs.recs_len ver fx fs 0 t
 have hrg : ∀ i f, fs.get i = some f → rs[i]? = some (f.tag, f.has ver, f.usual (t.at i), f.wr ver fx (t.at i)) := by
  intro i f hf
  have := SFs.recs_get ver fx fs 0 i t f hf
  rw [hrs, Nat.zero_add] at this
  exact this
 have hob : ((rs.map Rec.out).flatten).length ≤ big := by
  rw [hpe] at hbig
  split at hbig
  ·simp only [List.length_append] at hbig; omega
  ·exact hbig
 obtain ⟨ad, cap, hsv⟩ : ∃ ad cap, sv = .slice ad fs.len cap := by
  rcases hsf with ⟨rfl, h0⟩ | ⟨q, o, cap, rfl, _⟩
  ·exact ⟨none, 0, by rw [h0]⟩
  ·exact ⟨_, cap, rfl⟩
 have hget : ∀ V, Below U w V → ∀ i f, fs.get i = some f → i < fs.len → ∃ q o c, sv = .slice (some ⟨q, o, none⟩) fs.len cap ∧ q < U ∧ Cells V q (o + i * 8) c ∧ f.Rep V U c := by
  intro V hV i f hf hi
  rcases hsf with ⟨rfl, h0⟩ | ⟨q, o, cap', h1, _, hq, hrep⟩
  ·omega
  ·obtain ⟨c, h2, h3⟩ := hrep.get hf
   rw [h1] at hsv
   simp only [Value.slice.injEq] at hsv
   obtain ⟨_, _, rfl⟩ := hsv
   exact ⟨q, o, c, h1, hq, h2.below hV hq, h3.below hV⟩
 refine vS (vX (rM ?_))
 refine r_len (ad := ad) (n := fs.len) (c := cap) H.sFlds (by simp (disch := (try simp only [sP]); omega) only [eV, e0, hsv]) ?_
 refine rM (dn ?_)
 refine vS (vc_block (vc_count (fun m B V => m ≤ fs.len ∧ B.tmps.size = 132 ∧ B.defers = [] ∧ B.eval (.tmp 0) = sv ∧ B.eval (.tmp 1) = .int .i64 ver ∧ B.eval (.tmp 2) = .bool fx ∧ B.eval (.tmp 7) = .pointer (some ⟨b, 0, none⟩) ∧ B.eval (.tmp 10) = .slice none 0 0 ∧ B.eval (.tmp 11) = .int .i64 0 ∧
  B.eval (.tmp 21) = sv ∧ B.eval (.tmp 22) = .int .i64 (fs.len : Int) ∧ B.eval (.tmp 23) = .int .i64 ((fs.len - m : Nat) : Int) ∧ W1.heap.size ≤ V.heap.size ∧ Below W1.heap.size W1 V ∧
  ∃ xs : List UInt8, V.ownsRow W1.heap.size E.tU8 1 (B.eval (.tmp 9)) xs.length (xs.map bv) ∧ xs = ((rs.take (fs.len - m)).map Rec.out).flatten) fs.len ?_ ?_ ?_))
 ·refine ⟨Nat.le_refl _, by simp only [zP]; exact hsz, by simp only [dF]; exact hdf, (by simp (disch := (try simp only [sP]); omega) only [eV, e0]), (by simp (disch := (try simp only [sP]); omega) only [eV, e1]), (by simp (disch := (try simp only [sP]); omega) only [eV, e2]), (by simp (disch := (try simp only [sP]); omega) only [eV]), (by simp (disch := (try simp only [sP]); omega) only [eV]), (by simp (disch := (try simp only [sP]); omega) only [eV]), (by simp (disch := (try simp only [sP]); omega) only [eV, e0]), (by simp (disch := (try simp only [sP]); omega) only [eV]), ?_, Nat.le_refl _, Below.refl _ _, [], ?_, by simp⟩
  ·simp (disch := (try simp only [sP]); omega) only [eV]
   simp
  ·rw [show Act.eval _ (.tmp 9) = Value.slice none 0 0 by simp (disch := (try simp only [sP]); omega) only [eV]]
   exact World.ownsRow_nil _ _ _ _
 ·rintro m B V ⟨hm, hsB, hdB, g0, g1, g2, g7, g10, g11, g21, g22, g23, hWV, hbV, xs, hown, hxs⟩
  have hi : fs.len - (m + 1) < fs.len := by omega
  have him : fs.len - m = (fs.len - (m + 1)) + 1 := by omega
  rw [him]
  generalize hii : fs.len - (m + 1) = i at *
  obtain ⟨f, hf⟩ := SFs.get_lt fs i hi
  have hbVU : Below U w V := hb1.trans (hbV.mono hUW1)
  obtain ⟨q, o, c, hsv', hq, hc, hrc⟩ := hget V hbVU i f hf hi
  have htag := SFs.tags_get fs i f hf
  have hil : i < fs.tags.length := by rw [SFs.tags_len]; exact hi
  have htag' : fs.tags[i] = f.tag := by rw [List.getElem?_eq_getElem hil] at htag; exact Option.some.inj htag
  have hneg : f.tag < 0 := by rw [← htag']; exact hnt _ (List.getElem_mem hil)
  have hir : i < rs.length := by omega
  have hri : rs[i] = (f.tag, f.has ver, f.usual (t.at i), f.wr ver fx (t.at i)) := by
   have := hrg i f hf
   rw [List.getElem?_eq_getElem hir] at this
   exact Option.some.inj this
  have hsucc := flat_succ rs Rec.out i hir
  have hle := flat_le rs Rec.out (i + 1)
  rw [hsucc, ← hxs, hri] at hle
  rw [hsucc, ← hxs, hri]
  have hro : Rec.out (f.tag, f.has ver, f.usual (t.at i), f.wr ver fx (t.at i)) = if f.has ver then f.wr ver fx (t.at i) else [] := by
   simp [Rec.out, hneg]
  rw [hro] at hle ⊢
  have ht5 : Cells V b 0 ts := c1.below hbV (by omega)
  have hUV : U ≤ V.heap.size := Nat.le_trans hUW1 hWV
  refine vX ?_
  refine r_lss (k := .i64) (m := (i : Int)) (n := (fs.len : Int)) g23 g22 ?_
  refine dn ?_
  refine vS (vC (t := true) ?_ ?_ (fun h => by cases h))
  ·simp (disch := (try simp only [sP]); omega) only [eV]
   simp only [Value.bool.injEq, decide_eq_true_eq]
   omega
  intro _
  refine vK ?_
  refine vS (vc_block (vX ?_))
  refine rM ?_
  refine r_index (k := .i64) (j := i) (b := q) (o := o) (len := fs.len) (cap := cap) H.sFlds (by simp (disch := (try simp only [sP]); omega) only [eV, g21, hsv']) (by simp (disch := (try simp only [sP]); omega) only [eV, g23]) hi ?_
  refine r_loadAgg (b := q) (o := o + i * 8) (cs := c) (by simp (disch := (try simp only [sP]); omega) only [eV]) (by rw [hrc.len]; exact H.aFld) hc ?_
  refine r_alloc hz ?_
  refine rA ?_
  refine r_storeAgg (b := V.heap.size) (o := 0) (cs := c) (by simp (disch := (try simp only [sP]); omega) only [eV]) (by simp (disch := (try simp only [sP]); omega) only [eV]) hrc.one (by rw [hrc.len]; exact H.aFld) ?_ ?_
  ·intro j hj
   rw [Nat.zero_add]
   exact free_new V _ _ (by rw [hzc]; rw [hrc.len] at hj; simpa using hj)
  refine dn ?_
  have hcell : Cells (setCells (V.alloc (.cells z.cells E.tFld)) V.heap.size 0 c) V.heap.size 0 c := by
   intro j v hv
   refine setCells_cell V.heap.size c _ 0 (fun j hj => ?_) j _ hv
   rw [Nat.zero_add]
   exact (free_new V z.cells E.tFld (by rw [hzc]; rw [hrc.len] at hj; simpa using hj)).1
  have hb2 : Below V.heap.size V (setCells (V.alloc (.cells z.cells E.tFld)) V.heap.size 0 c) := by
   refine ((Below.refl V.heap.size V).alloc (o := .cells _ _) (Nat.le_refl _)).trans ((setCells_eff V.heap.size c _ 0).below (by simp) (by rintro k i hk ⟨rfl, _, _⟩; omega))
  have hz2 : V.heap.size < (setCells (V.alloc (.cells z.cells E.tFld)) V.heap.size 0 c).heap.size := by
   have := (setCells_eff V.heap.size c (V.alloc (.cells z.cells E.tFld)) 0).size
   simp at this
   omega
  have hc4 : (setCells (V.alloc (.cells z.cells E.tFld)) V.heap.size 0 c).cell? ⟨V.heap.size, 0 + 4, none⟩ = some (.int .i64 f.tag) := by
   refine hcell 4 _ ?_
   cases f with
   | mk => obtain ⟨sv2, rfl, _⟩ := hrc; rfl
  generalize setCells (V.alloc (.cells z.cells E.tFld)) V.heap.size 0 c = V1 at hcell hb2 hz2 hc4 ⊢
  have hrc1 := (hrc.below (hb2.mono hUV)).mono (U' := V1.heap.size) (by omega)
  generalize hG : (((((B.put (some 24) _).put (some 25) _).put (some 26) _).put (some 27) _).put (some 13) _).put (some 12) _ = G
  have hsG : G.tmps.size = 132 := by rw [← hG]; simp only [zP]; exact hsB
  have hdG : G.defers = [] := by rw [← hG]; simp only [dF]; exact hdB
  have k0 : G.eval (.tmp 0) = sv := by rw [← hG]; simp (disch := (try simp only [sP]); omega) only [eV, g0]
  have k1 : G.eval (.tmp 1) = .int .i64 ver := by rw [← hG]; simp (disch := (try simp only [sP]); omega) only [eV, g1]
  have k2 : G.eval (.tmp 2) = .bool fx := by rw [← hG]; simp (disch := (try simp only [sP]); omega) only [eV, g2]
  have k7 : G.eval (.tmp 7) = .pointer (some ⟨b, 0, none⟩) := by rw [← hG]; simp (disch := (try simp only [sP]); omega) only [eV, g7]
  have k9 : G.eval (.tmp 9) = B.eval (.tmp 9) := by rw [← hG]; simp (disch := (try simp only [sP]); omega) only [eV]
  have k10 : G.eval (.tmp 10) = .slice none 0 0 := by rw [← hG]; simp (disch := (try simp only [sP]); omega) only [eV, g10]
  have k11 : G.eval (.tmp 11) = .int .i64 0 := by rw [← hG]; simp (disch := (try simp only [sP]); omega) only [eV, g11]
  have k12 : G.eval (.tmp 12) = .int .i64 (i : Int) := by rw [← hG]; simp (disch := (try simp only [sP]); omega) only [eV, g23]
  have k13 : G.eval (.tmp 13) = .pointer (some ⟨V.heap.size, 0, none⟩) := by rw [← hG]; simp (disch := (try simp only [sP]); omega) only [eV]
  have k21 : G.eval (.tmp 21) = sv := by rw [← hG]; simp (disch := (try simp only [sP]); omega) only [eV, g21]
  have k22 : G.eval (.tmp 22) = .int .i64 (fs.len : Int) := by rw [← hG]; simp (disch := (try simp only [sP]); omega) only [eV, g22]
  have k23 : G.eval (.tmp 23) = .int .i64 (i : Int) := by rw [← hG]; simp (disch := (try simp only [sP]); omega) only [eV, g23]
  rw [← k9] at hown
  clear hG
  generalize hv9 : G.eval (.tmp 9) = v9 at *
  refine vS (vc_rgS [0, 1, 2, 3, 4, 5, 6, 7] rfl ?_)
  refine rD rfl (wN rfl) (rF (b := V.heap.size) (o := 0) (by simp (disch := (try simp only [sP]); omega) only [eV, k13]) (offs_inv H.fFld (by decide)) (dn (rT ?_)))
  refine rD rfl (wN rfl) (rL (b := V.heap.size) (o := 0 + 4) (by simp (disch := (try simp only [sP]); omega) only [eV]) H.oInt hc4 (dn (rT ?_)))
  refine rD rfl (wN rfl) (r_lss (k := .i64) (m := f.tag) (n := 0) (by simp (disch := (try simp only [sP]); omega) only [eV]) rfl (dn (rT ?_)))
  rw [show decide (f.tag < 0) = true by simpa using hneg]
  (refine rD rfl (wN rfl) ?_; refine rM ?_; refine dn (rT ?_))
  refine rD rfl (by rw [wS (b := true) rfl rfl (by (try simp (disch := (try simp only [sP]); omega) only [eV]) <;> (first | rfl | assumption))]; rfl) (r_loadAgg (b := V.heap.size) (o := 0) (cs := c) (by simp (disch := (try simp only [sP]); omega) only [eV, k13]) (by rw [hrc.len]; exact H.aFld) hcell (dn (rT ?_)))
  (refine rD rfl (by rw [wS (b := true) rfl rfl (by (try simp (disch := (try simp only [sP]); omega) only [eV]) <;> (first | rfl | assumption))]; rfl) ?_; refine rM ?_; refine dn (rT ?_))
  refine rD rfl (by rw [wS (b := true) rfl rfl (by (try simp (disch := (try simp only [sP]); omega) only [eV]) <;> (first | rfl | assumption))]; rfl) ?_
  refine r_call' (args := #[.agg c.toArray, .int .i64 ver]) ?_ (s_has (U := V1.heap.size) (v := ver) H HT.has hrc1 (Nat.le_refl _)) ?_
  ·simp only [lM]
   simp (disch := (try simp only [sP]); omega) only [eV, k1]
  rintro v V2 ⟨rfl, hb3⟩
  refine dn (rT ?_)
  refine rD rfl (wN rfl) (r_pickT (by simp (disch := (try simp only [sP]); omega) only [eV]) (dn (rT ?_)))
  refine runS_nil ?_
  have hV2 : Below V.heap.size V V2 := hb2.trans (hb3.mono (by omega))
  have hown2 := own_below hown hV2
  have hcell2 : Cells V2 V.heap.size 0 c := hcell.below hb3 (by omega)
  have ht52 : Cells V2 b 0 ts := ht5.below hV2 (by omega)
  have hwi : IntKind.i64.wrap ((i : Int) + 1) = ((i + 1 : Nat) : Int) := by rw [wrap_i64 (by omega) (by omega)]; rfl
  have fin : ∀ (B' : Act) (V' : World) (ys : List UInt8) (x9 : Value), B'.tmps.size = 132 → B'.defers = [] → B'.eval (.tmp 0) = sv → B'.eval (.tmp 1) = .int .i64 ver → B'.eval (.tmp 2) = .bool fx → B'.eval (.tmp 7) = .pointer (some ⟨b, 0, none⟩) → B'.eval (.tmp 10) = .slice none 0 0 → B'.eval (.tmp 11) = .int .i64 0 →
    B'.eval (.tmp 21) = sv → B'.eval (.tmp 22) = .int .i64 (fs.len : Int) → B'.eval (.tmp 23) = .int .i64 (i : Int) → B'.eval (.tmp 9) = x9 → W1.heap.size ≤ V'.heap.size → Below W1.heap.size W1 V' → V'.ownsRow W1.heap.size E.tU8 1 x9 ys.length (ys.map bv) → ys = xs ++ (if f.has ver then f.wr ver fx (t.at i) else []) → ∀ Q : Exit → Act → World → Prop,
    (∀ A', (m ≤ fs.len ∧ A'.tmps.size = 132 ∧ A'.defers = [] ∧ A'.eval (.tmp 0) = sv ∧ A'.eval (.tmp 1) = .int .i64 ver ∧ A'.eval (.tmp 2) = .bool fx ∧ A'.eval (.tmp 7) = .pointer (some ⟨b, 0, none⟩) ∧ A'.eval (.tmp 10) = .slice none 0 0 ∧ A'.eval (.tmp 11) = .int .i64 0 ∧
  A'.eval (.tmp 21) = sv ∧ A'.eval (.tmp 22) = .int .i64 (fs.len : Int) ∧ A'.eval (.tmp 23) = .int .i64 ((i + 1 : Nat) : Int) ∧ W1.heap.size ≤ V'.heap.size ∧ Below W1.heap.size W1 V' ∧
  ∃ zs : List UInt8, V'.ownsRow W1.heap.size E.tU8 1 (A'.eval (.tmp 9)) zs.length (zs.map bv) ∧ zs = xs ++ (if f.has ver then f.wr ver fx (t.at i) else [])) → Q .normal A' V') →
    vc P (sq [(rg [(oQ 45 (.binOp .add E.tI (.tmp 23) (.const (.int .i64 1)) E.tI) E.tI), (oQ 23 (.move (.tmp 45)) E.tI)])]) Q B' V' := by
   intro B' V' ys x9 b0 b1 b2 b3 b4 b5 b6 b7 b8 b9 b10 b11 b12 b13 b14 b15 Q hQ
   refine vX ?_
   refine r_add (k := .i64) (m := (i : Int)) (n := 1) (by simp (disch := (try simp only [sP]); omega) only [eV, b10]) rfl ?_
   refine rM (dn (vN ?_))
   refine hQ _ ⟨by omega, by simp only [zP]; exact b0, by simp only [dF]; exact b1, (by simp (disch := (try simp only [sP]); omega) only [eV, b2]), (by simp (disch := (try simp only [sP]); omega) only [eV, b3]), (by simp (disch := (try simp only [sP]); omega) only [eV, b4]), (by simp (disch := (try simp only [sP]); omega) only [eV, b5]), (by simp (disch := (try simp only [sP]); omega) only [eV, b6]), (by simp (disch := (try simp only [sP]); omega) only [eV, b7]), (by simp (disch := (try simp only [sP]); omega) only [eV, b8]), (by simp (disch := (try simp only [sP]); omega) only [eV, b9]), ?_, b12, b13, ys, ?_, b15⟩
   ·simp (disch := (try simp only [sP]); omega) only [eV]
    rw [hwi]
   ·rw [show Act.eval _ (.tmp 9) = x9 by simp (disch := (try simp only [sP]); omega) only [eV, b11]]
    exact b14
  generalize hh : f.has ver = hb at *
  refine vS (vC (t := hb) (by (try simp (disch := (try simp only [sP]); omega) only [eV]) <;> (first | rfl | assumption)) ?_ ?_)
  ·intro hb'
   subst hb'
   simp only [if_true] at hle fin ⊢
   rw [List.length_append] at hle
   have hbd : Below V2.heap.size V2 { V2 with drawn := V2.drawn + 1 } := ⟨rfl, rfl, rfl, Nat.le_refl _, fun _ _ => rfl⟩
   have hVV2 : V.heap.size < V2.heap.size := Nat.lt_of_lt_of_le hz2 hb3.size
   have mkS : ∀ w2, Below V2.heap.size V2 w2 → Cells w2 V.heap.size 0 c ∧ Cells w2 b 0 ts := fun w2 h2 => ⟨hcell2.below h2 hVV2, ht52.below h2 (by omega)⟩
   have hS := mkS _ hbd
   have hUV2 : U ≤ V2.heap.size := by omega
   have hV2d : Below U w { V2 with drawn := V2.drawn + 1 } := (hbVU.trans (hV2.mono hUV)).trans (hbd.mono hUV2)
   have hrc2 : f.Rep { V2 with drawn := V2.drawn + 1 } V2.heap.size c := (hrc.below ((hV2.mono hUV).trans (hbd.mono hUV2))).mono hUV2
   have hrt2 : t.Rep { V2 with drawn := V2.drawn + 1 } V2.heap.size ts := (hrt.below hV2d).mono hUV2
   refine vc_rgd [(0, true), (1, true), (2, true), (3, true), (4, true), (5, true), (6, false), (7, false), (8, false), (9, true)] (fun W' => Cells W' V.heap.size 0 c ∧ Cells W' b 0 ts) HT.mixed (by kernel_rfl) rfl (by kernel_rfl) (fun _ _ _ _ h => False.elim h) ?_
   refine dP rfl rfl rfl (wN rfl) (by simp only [zP, hsG]; decide) hS (fun w' hS' => rM (dn ⟨rfl, rfl, rfl⟩)) ?_
   refine dP rfl rfl rfl (wN rfl) (by simp only [zP, hsG]; decide) hS (fun w' hS' => r_loadAgg (b := V.heap.size) (o := 0) (cs := c) (by simp (disch := (try simp only [sP]); omega) only [eV, k13]) (by rw [hrc.len]; exact H.aFld) hS'.1 (dn ⟨rfl, rfl, rfl⟩)) ?_
   refine dP rfl rfl rfl (wN rfl) (by simp only [zP, hsG]; decide) hS (fun w' hS' => rM (dn ⟨rfl, rfl, rfl⟩)) ?_
   refine dP rfl rfl rfl (wN rfl) (by simp only [zP, hsG]; decide) hS (fun w' hS' => rM (dn ⟨rfl, rfl, rfl⟩)) ?_
   refine dP rfl rfl rfl (wN rfl) (by simp only [zP, hsG]; decide) hS (fun w' hS' => r_loadAgg (b := b) (o := 0) (cs := ts) (by simp (disch := (try simp only [sP]); omega) only [eV, k7]) (by rw [hrt.len]; exact H.aTree) hS'.2 (dn ⟨rfl, rfl, rfl⟩)) ?_
   refine dP rfl rfl rfl (wN rfl) (by simp only [zP, hsG]; decide) hS (fun w' hS' => rM (dn ⟨rfl, rfl, rfl⟩)) ?_
   refine d_sole rfl (wN rfl) ?_
   refine r_call' (args := #[.agg ts.toArray, .int .i64 (i : Int)]) ?_ (s_at (U := V2.heap.size) (i := i) H HL HT.at' hrt2 (Nat.le_refl _)) ?_
   ·simp only [lM]
    simp (disch := (try simp only [sP]); omega) only [eV, k12]
   rintro v3 w3 ⟨c2, rfl, hr2, hb4⟩
   refine dn (d_then (mkS _ (hbd.trans hb4)) ?_)
   refine d_sole rfl (wN rfl) ?_
   refine r_call' (args := #[.agg c.toArray, .int .i64 ver, .bool fx, .agg c2.toArray]) ?_ (hfc i f hf V2.heap.size w3 c (t.at i) c2 hb4.size (hrc2.below hb4) (hr2.below hb4) (by omega)) ?_
   ·simp only [lM]
    simp (disch := (try simp only [sP]); omega) only [eV, k1, k2]
   rintro v4 w4 ⟨h4, hb5⟩
   have hV4 : Below V2.heap.size V2 w4 := (hbd.trans hb4).trans hb5
   refine dn (d_then (mkS _ hV4) ?_)
   refine d_sole rfl (wN rfl) ?_
   have hown4 := own_below hown2 hV4
   have hWV2 : W1.heap.size ≤ V2.heap.size := by omega
   refine r_appendG (sz := 1) (U := W1.heap.size) (v := v9) (m := (f.wr ver fx (t.at i)).length) (news := (f.wr ver fx (t.at i)).map bv) H.row (by simp (disch := (try simp only [sP]); omega) only [eV, hv9]) (by simp (disch := (try simp only [sP]); omega) only [eV]) hown4 (Nat.le_trans hWV2 hV4.size) (src_own (rB H.row) h4 (bv_one _)) (by omega) ?_
   intro v6 w6 h6 hb6 hg6 _
   rw [← List.length_append, ← List.map_append] at h6
   have hS4 := mkS _ hV4
   have hVw4 : V.heap.size < w4.heap.size := Nat.lt_of_lt_of_le hVV2 hV4.size
   have hS6 : Cells w6 V.heap.size 0 c ∧ Cells w6 b 0 ts := ⟨hS4.1.grown hg6 hVw4 (fun he => by have := own_block_lt hown he.symm; omega), hS4.2.below hb6 (by omega)⟩
   refine dn (d_then hS6 ?_)
   refine dP rfl rfl rfl (wN rfl) (by simp only [zP, hsG]; decide) hS6 (fun w' hS' => rA (dn ⟨rfl, rfl, rfl⟩)) ?_
   refine d_nil ?_
   refine vN ?_
   have hV6 : Below W1.heap.size V w6 := ((hV2.mono hWV).trans (hV4.mono hWV2)).trans hb6
   exact fin _ w6 (xs ++ f.wr ver fx (t.at i)) v6 (by simp only [zP]; exact hsG) (by simp only [dF]; exact hdG) (by simp (disch := (try simp only [sP]); omega) only [eV, k0]) (by simp (disch := (try simp only [sP]); omega) only [eV, k1]) (by simp (disch := (try simp only [sP]); omega) only [eV, k2]) (by simp (disch := (try simp only [sP]); omega) only [eV, k7]) (by simp (disch := (try simp only [sP]); omega) only [eV, k10]) (by simp (disch := (try simp only [sP]); omega) only [eV, k11]) (by simp (disch := (try simp only [sP]); omega) only [eV, k21]) (by simp (disch := (try simp only [sP]); omega) only [eV, k22]) (by simp (disch := (try simp only [sP]); omega) only [eV, k23]) (by simp (disch := (try simp only [sP]); omega) only [eV]) (Nat.le_trans hWV hV6.size) (hbV.trans hV6) h6 rfl _ (fun A' h => h)
  ·intro hb'
   subst hb'
   simp only [Bool.false_eq_true, if_false, List.append_nil] at fin ⊢
   refine vK (vN ?_)
   exact fin _ V2 xs v9 (by simp only [zP]; exact hsG) (by simp only [dF]; exact hdG) (by simp (disch := (try simp only [sP]); omega) only [eV, k0]) (by simp (disch := (try simp only [sP]); omega) only [eV, k1]) (by simp (disch := (try simp only [sP]); omega) only [eV, k2]) (by simp (disch := (try simp only [sP]); omega) only [eV, k7]) (by simp (disch := (try simp only [sP]); omega) only [eV, k10]) (by simp (disch := (try simp only [sP]); omega) only [eV, k11]) (by simp (disch := (try simp only [sP]); omega) only [eV, k21]) (by simp (disch := (try simp only [sP]); omega) only [eV, k22]) (by simp (disch := (try simp only [sP]); omega) only [eV, k23]) (by simp (disch := (try simp only [sP]); omega) only [eV, hv9]) (Nat.le_trans hWV hV2.size) (hbV.trans (hV2.mono hWV)) hown2 rfl _ (fun A' h => h)
 ·rintro B V ⟨hm, hsB, hdB, g0, g1, g2, g7, g10, g11, g21, g22, g23, hWV, hbV, xs, hown, hxs⟩
  rw [Nat.sub_zero, ← hrl, List.take_length] at hxs
  rw [Nat.sub_zero] at g23
  refine vX ?_
  refine r_lss (k := .i64) (m := (fs.len : Int)) (n := (fs.len : Int)) g23 g22 ?_
  refine dn ?_
  refine vS (vC (t := false) ?_ (fun h => by cases h) ?_)
  ·simp (disch := (try simp only [sP]); omega) only [eV]
   simp only [Value.bool.injEq, decide_eq_false_iff_not]
   omega
  intro _
  refine vc_exit ?_
  simp only [Exit.then, Exit.inBlock, if_true]
  refine vN ?_
  cases t with
  | mk n s nl l u =>
  obtain ⟨s1, lv, uv, hts, _, hub, _⟩ := hrt
  have d4 : V.cell? ⟨b, 4, none⟩ = some uv := by
   have := c1.below hbV (by omega) 4 uv (by rw [hts]; rfl)
   simpa using this
  refine s_partM (w := w) (U := U) (fs := fs) (sv := sv) (uv := uv) (u := u) (b := b) (fx := fx) H HL HT hunk (by simp only [zP]; exact hsB) (by simp only [dF]; exact hdB) (by simp (disch := (try simp only [sP]); omega) only [eV, g0]) (by simp (disch := (try simp only [sP]); omega) only [eV, g2]) (by simp (disch := (try simp only [sP]); omega) only [eV, g7]) rfl (by simp (disch := (try simp only [sP]); omega) only [eV, g10]) (by simp (disch := (try simp only [sP]); omega) only [eV, g11]) hsf hnt hfl' (by omega) d4 hub (by rw [hbb]; exact hU) (hb1.trans (hbV.mono hUW1)) (xs := xs) ?_ (R := fs.part ver fx (.mk n s nl l u)) ?_ hbig (fun a' w' h => h)
  ·rw [show Act.eval _ (.tmp 9) = B.eval (.tmp 9) by simp (disch := (try simp only [sP]); omega) only [eV]]
   exact own_mono hown hUW1
  ·rw [hpe, ← hxs]
   rfl
end
end Go.Km
namespace Go.Km
open Go Go.RowKit
attribute [local irreducible] vc rO_ runG runS runD
def pos (x : Nat) (l : List (Nat × List UInt8)) : Nat := (l.takeWhile fun y => decide (y.1 < x)).length
theorem pos_cons_lt {x : Nat} {y : Nat × List UInt8} {r : List (Nat × List UInt8)} (h : y.1 < x) : pos x (y :: r) = pos x r + 1 := by
 simp [pos, List.takeWhile_cons, h]
theorem pos_cons_ge {x : Nat} {y : Nat × List UInt8} {r : List (Nat × List UInt8)} (h : ¬ y.1 < x) : pos x (y :: r) = 0 := by
 simp [pos, List.takeWhile_cons, h]
theorem pos_le (x : Nat) : ∀ l, pos x l ≤ l.length
 | [] => by simp [pos]
 | y :: r => by
  by_cases h : y.1 < x
  ·rw [pos_cons_lt h, List.length_cons]; have := pos_le x r; omega
  ·rw [pos_cons_ge h]; omega
theorem pos_lt (x : Nat) : ∀ (l : List (Nat × List UInt8)) (i : Nat) (h : i < l.length), i < pos x l → l[i].1 < x
 | [], i, h, _ => by simp at h
 | y :: r, i, h, hp => by
  by_cases hy : y.1 < x
  ·cases i with
   | zero => exact hy
   | succ i =>
    rw [pos_cons_lt hy] at hp
    simpa using pos_lt x r i (by simpa using h) (by omega)
  ·rw [pos_cons_ge hy] at hp; omega
theorem pos_at (x : Nat) : ∀ (l : List (Nat × List UInt8)) (h : pos x l < l.length), ¬ l[pos x l].1 < x
 | [], h => by simp at h
 | y :: r, h => by
  by_cases hy : y.1 < x
  ·have h' : pos x r < r.length := by rw [pos_cons_lt hy] at h; simpa using h
   have := pos_at x r h'
   simp only [pos_cons_lt hy, List.getElem_cons_succ]
   exact this
  ·simp only [pos_cons_ge hy, List.getElem_cons_zero]
   exact hy
theorem insU_pos (x : Nat × List UInt8) : ∀ l : List (Nat × List UInt8), insU x l = if (l[pos x.1 l]?).map (·.1) = some x.1 then l else l.take (pos x.1 l) ++ x :: l.drop (pos x.1 l)
 | [] => by simp [insU, pos]
 | y :: r => by
  have ih := insU_pos x r
  unfold insU
  by_cases hy : y.1 < x.1
  ·rw [if_pos hy, ih, pos_cons_lt hy]
   simp only [List.getElem?_cons_succ, List.take_succ_cons, List.drop_succ_cons, List.cons_append]
   split <;> rfl
  ·rw [if_neg hy, pos_cons_ge hy]
   simp only [List.getElem?_cons_zero, Option.map_some, Option.some.injEq, List.take_zero, List.drop_zero, List.nil_append]
abbrev UE := (Nat × List UInt8) × Value
def fl : List UE → List Value
 | [] => []
 | e :: r => .int .u32 (e.1.1 : Int) :: e.2 :: fl r
theorem fl_len : ∀ l, (fl l).length = l.length * 2
 | [] => rfl
 | e :: r => by simp [fl, fl_len r]; omega
theorem fl_app : ∀ a b : List UE, fl (a ++ b) = fl a ++ fl b
 | [], b => rfl
 | e :: r, b => by simp [fl, fl_app r b]
theorem fl_get0 : ∀ (l : List UE) (i : Nat) (e : UE), l[i]? = some e → (fl l)[i * 2]? = some (.int .u32 (e.1.1 : Int))
 | [], i, e, h => by simp at h
 | x :: r, 0, e, h => by simp at h; subst h; rfl
 | x :: r, i + 1, e, h => by
  have := fl_get0 r i e (by simpa using h)
  rw [show (i + 1) * 2 = i * 2 + 1 + 1 by omega]
  simpa [fl] using this
theorem fl_get1 : ∀ (l : List UE) (i : Nat) (e : UE), l[i]? = some e → (fl l)[i * 2 + 1]? = some e.2
 | [], i, e, h => by simp at h
 | x :: r, 0, e, h => by simp at h; subst h; rfl
 | x :: r, i + 1, e, h => by
  have := fl_get1 r i e (by simpa using h)
  rw [show (i + 1) * 2 + 1 = i * 2 + 1 + 1 + 1 by omega]
  simpa [fl] using this
theorem fl_set : ∀ (l : List UE) (i : Nat) (e : UE), i < l.length → ((fl l).set (i * 2) (.int .u32 (e.1.1 : Int))).set (i * 2 + 1) e.2 = fl (l.set i e)
 | [], i, e, h => by simp at h
 | x :: r, 0, e, h => by simp [fl]
 | x :: r, i + 1, e, h => by
  have := fl_set r i e (by simpa using h)
  rw [show (i + 1) * 2 = i * 2 + 1 + 1 by omega]
  simpa [fl] using this
theorem shift_set (es : List UE) (k : Nat) (X : UE) (h : k < es.length) : (es.take (k + 1) ++ X :: es.drop (k + 1)).set (k + 1) es[k] = es.take k ++ es[k] :: es.drop k := by
 have h1 : (es.take (k + 1)).length = k + 1 := by simp; omega
 rw [List.set_append_right _ _ (by omega), h1, Nat.sub_self, List.set_cons_zero, List.take_succ_eq_append_getElem h, List.append_assoc]
 congr 1
 rw [List.drop_eq_getElem_cons h]
 rfl
theorem shift_get (es : List UE) (k : Nat) (X : UE) (h : k < es.length) : (es.take (k + 1) ++ X :: es.drop (k + 1))[k]? = some es[k] := by
 rw [List.getElem?_append_left (by simp; omega), List.getElem?_take, if_pos (by omega), List.getElem?_eq_getElem h]
theorem put_set (es : List UE) (k : Nat) (X e : UE) (h : k ≤ es.length) : (es.take k ++ X :: es.drop k).set k e = es.take k ++ e :: es.drop k := by
 have h1 : (es.take k).length = k := by simp; omega
 rw [List.set_append_right _ _ (by omega), h1, Nat.sub_self, List.set_cons_zero]
theorem own_set2 {w : World} {B : Nat} {e : TypeId} {g n cap i : Nat} {l : List UE} {x : UE} (h : w.ownsRow B e 2 (.slice (some ⟨g, 0, none⟩) n cap) n (fl l)) (hi : i < l.length) :
  (setCells w g (i * 2) [.int .u32 (x.1.1 : Int), x.2]).ownsRow B e 2 (.slice (some ⟨g, 0, none⟩) n cap) n (fl (l.set i x)) ∧ Below B w (setCells w g (i * 2) [.int .u32 (x.1.1 : Int), x.2]) := by
 have h1 := h.stored (i * 2) (.int .u32 (x.1.1 : Int))
 have h2 := h1.1.stored (i * 2 + 1) x.2
 rw [fl_set l i x hi] at h2
 refine ⟨h2.1, ?_⟩
 have hb : B ≤ g := (h.lt g rfl).1
 have k1 : Below B w (w.setCell ⟨g, i * 2, none⟩ (.int .u32 (x.1.1 : Int))) := ⟨h1.2.os, h1.2.tape, h1.2.output, h1.2.size, fun k hk => by
  rcases Nat.lt_or_ge k w.heap.size with h3 | h3
  ·exact h1.2.block k h3 (by simp; omega)
  ·have hg : g < w.heap.size := own_block_lt h rfl
   omega⟩
 refine k1.trans ⟨h2.2.os, h2.2.tape, h2.2.output, h2.2.size, fun k hk => ?_⟩
 have hg : g < w.heap.size := own_block_lt h rfl
 have := h1.2.size
 exact h2.2.block k (by omega) (by simp; omega)
theorem own_free2 {w : World} {B : Nat} {e : TypeId} {g n cap j : Nat} {l : List UE} (h : w.ownsRow B e 2 (.slice (some ⟨g, 0, none⟩) n cap) n (fl l)) (hj : j < n * 2) : Free w g j := by
 refine ⟨?_, h.frozenAt j⟩
 rw [h.cellAt j hj]
 have := h.1
 rw [List.getElem?_eq_getElem (by omega)]
 rfl
theorem own_cells2 {w : World} {B : Nat} {e : TypeId} {g n cap i : Nat} {l : List UE} {x : UE} (h : w.ownsRow B e 2 (.slice (some ⟨g, 0, none⟩) n cap) n (fl l)) (hx : l[i]? = some x) : Cells w g (i * 2) [.int .u32 (x.1.1 : Int), x.2] := by
 have hl := h.1
 rw [fl_len] at hl
 have hi : i < l.length := by
  rcases Nat.lt_or_ge i l.length with h | h
  ·exact h
  ·rw [List.getElem?_eq_none h] at hx; cases hx
 intro j v hv
 match j, hv with
 | 0, hv =>
  simp only [List.getElem?_cons_zero, Option.some.injEq] at hv
  subst hv
  rw [Nat.add_zero, h.cellAt _ (by omega)]
  exact fl_get0 l i x hx
 | 1, hv =>
  simp only [List.getElem?_cons_succ, List.getElem?_cons_zero, Option.some.injEq] at hv
  subst hv
  rw [h.cellAt _ (by omega)]
  exact fl_get1 l i x hx
theorem own_form2 {w : World} {B : Nat} {e : TypeId} {v : Value} {n : Nat} {xs : List Value} (h : w.ownsRow B e 2 v n xs) : (v = .slice none 0 0 ∧ n = 0) ∨ ∃ g cap, v = .slice (some ⟨g, 0, none⟩) n cap ∧ n ≤ cap ∧ B ≤ g ∧ g < w.heap.size := by
 rcases h.2 with h' | ⟨g, cap, cur, h1, h2, h3, h4, _⟩
 ·exact .inl h'
 ·exact .inr ⟨g, cap, h1, h4, h2, (Array.getElem?_eq_some_iff.1 h3).1⟩
section
variable {P : Program} {E : Env} {w : World} {U : Nat}
theorem s_unkT1 (H : SEnv P E) (HT : STexts P E) {B : Act} {V : World} {Q : Exit → Act → World → Prop} {j n cap tk bb : Nat} {ad : Option Addr} {res : Bool}
    (hs : B.tmps.size = 85) (h9 : B.eval (.tmp 9) = .int .i64 (j : Int)) (h6 : B.eval (.tmp 6) = .slice ad n cap) (h8 : B.eval (.tmp 8) = .pointer (some ⟨bb, 0, none⟩)) (hk : V.cell? ⟨bb, 0, none⟩ = some (.int .u32 (tk : Int)))
    (hlt : j < n → ∃ g kj : Nat, ad = some ⟨g, 0, none⟩ ∧ V.cell? ⟨g, 0 + j * 2, none⟩ = some (.int .u32 (kj : Int)) ∧ res = decide ((kj : Int) < (tk : Int))) (hge : ¬ j < n → res = false)
    (hpanic : ∀ c a a' w, Q (.panic c) a w → Q (.panic c) a' w)
    (hQ : ∀ A', A'.tmps.size = 85 → A'.defers = B.defers → (∀ k : Nat, k < 23 → A'.eval (.tmp k) = B.eval (.tmp k)) → A'.eval (.tmp 36) = .bool res → Q .normal A' { V with drawn := V.drawn + 1 }) :
    vc P (rgd [
      (oQ 23 (.move (.tmp 9)) E.tI),
                          (oQ 24 (.move (.tmp 6)) E.tK),
                          ⟨some 25, .call { callee := .builtin .len, args := #[(.tmp 24)], argTypes := #[E.tK] }, E.tI, "", #[⟨1, .data⟩], none⟩,
                          ⟨some 26, .binOp .lss E.tI (.tmp 23) (.tmp 25) E.tI, E.tO, "", #[⟨0, .data⟩, ⟨2, .data⟩], none⟩,
                          ⟨some 27, .move (.tmp 26), E.tO, "", #[⟨3, .data⟩], none⟩,
                          ⟨some 28, .move (.tmp 6), E.tK, "", #[⟨4, .guard⟩], some (4, true)⟩,
                          ⟨some 29, .move (.tmp 9), E.tI, "", #[⟨4, .guard⟩], some (4, true)⟩,
                          ⟨some 30, .indexAddr E.tK (.tmp 28) (.tmp 29), 0, "", #[⟨5, .data⟩, ⟨6, .data⟩, ⟨4, .guard⟩], some (4, true)⟩,
                          ⟨some 31, .fieldAddr E.tUnk (.tmp 30) 0, 0, "", #[⟨7, .data⟩, ⟨4, .guard⟩], some (4, true)⟩,
                          ⟨some 32, .load E.tW (.tmp 31), E.tW, "", #[⟨8, .data⟩, ⟨4, .guard⟩], some (4, true)⟩,
                          ⟨some 33, .fieldAddr E.tUnk (.tmp 8) 0, 0, "", #[⟨4, .guard⟩], some (4, true)⟩,
                          ⟨some 34, .load E.tW (.tmp 33), E.tW, "", #[⟨10, .data⟩, ⟨4, .guard⟩], some (4, true)⟩,
                          ⟨some 35, .binOp .lss E.tW (.tmp 32) (.tmp 34) E.tW, E.tO, "", #[⟨9, .data⟩, ⟨11, .data⟩, ⟨4, .guard⟩], some (4, true)⟩,
                          ⟨some 36, .pick (.tmp 27) (.tmp 35) (.const (.bool false)), E.tO, "", #[⟨4, .data⟩, ⟨12, .data⟩], none⟩]) Q B V := by
  have hsl := rB H.rUnks
  by_cases hjn : j < n
  · obtain ⟨g, kj, rfl, hc, hres⟩ := hlt hjn
    have hd : decide ((j : Int) < (n : Int)) = true := by simp; omega
    have hS : (fun W' : World => W'.cell? ⟨bb, 0, none⟩ = some (.int .u32 (tk : Int)) ∧ W'.cell? ⟨g, 0 + j * 2, none⟩ = some (.int .u32 (kj : Int))) { V with drawn := V.drawn + 1 } := ⟨hk, hc⟩
    refine vc_rgd [(0, true), (1, true), (2, true), (3, true), (4, true), (5, true), (6, true), (7, true), (8, true), (9, true), (10, true), (11, true), (12, true), (13, true)] (fun W' => W'.cell? ⟨bb, 0, none⟩ = some (.int .u32 (tk : Int)) ∧ W'.cell? ⟨g, 0 + j * 2, none⟩ = some (.int .u32 (kj : Int))) HT.mixed (by kernel_rfl) rfl (by kernel_rfl) hpanic ?_
    refine dP rfl rfl rfl (wN rfl) (by simp only [zP, hs]; decide) hS (fun w' hS' => rM (dn ⟨rfl, rfl, rfl⟩)) ?_
    refine dP rfl rfl rfl (wN rfl) (by simp only [zP, hs]; decide) hS (fun w' hS' => rM (dn ⟨rfl, rfl, rfl⟩)) ?_
    refine dP rfl rfl rfl (wN rfl) (by simp only [zP, hs]; decide) hS (fun w' hS' => r_len (ad := some ⟨g, 0, none⟩) (n := n) (c := cap) hsl (by simp (disch := (try simp only [sP]); omega) only [eV, h6]) (dn ⟨rfl, rfl, rfl⟩)) ?_
    refine dP rfl rfl rfl (wN rfl) (by simp only [zP, hs]; decide) hS (fun w' hS' => r_lss (k := .i64) (m := (j : Int)) (n := (n : Int)) (by simp (disch := (try simp only [sP]); omega) only [eV, h9]) (by simp (disch := (try simp only [sP]); omega) only [eV]) (dn ⟨rfl, rfl, rfl⟩)) ?_
    rw [hd]
    refine dP rfl rfl rfl (wN rfl) (by simp only [zP, hs]; decide) hS (fun w' hS' => rM (dn ⟨rfl, rfl, rfl⟩)) ?_
    refine dP rfl rfl rfl (by rw [wS (b := true) rfl rfl (by (try simp (disch := (try simp only [sP]); omega) only [eV]) <;> (first | rfl | assumption))]; rfl) (by simp only [zP, hs]; decide) hS (fun w' hS' => rM (dn ⟨rfl, rfl, rfl⟩)) ?_
    refine dP rfl rfl rfl (by rw [wS (b := true) rfl rfl (by (try simp (disch := (try simp only [sP]); omega) only [eV]) <;> (first | rfl | assumption))]; rfl) (by simp only [zP, hs]; decide) hS (fun w' hS' => rM (dn ⟨rfl, rfl, rfl⟩)) ?_
    refine dP rfl rfl rfl (by rw [wS (b := true) rfl rfl (by (try simp (disch := (try simp only [sP]); omega) only [eV]) <;> (first | rfl | assumption))]; rfl) (by simp only [zP, hs]; decide) hS (fun w' hS' => r_index (k := .i64) (j := j) (b := g) (o := 0) (len := n) (cap := cap) hsl (by simp (disch := (try simp only [sP]); omega) only [eV, h6]) (by simp (disch := (try simp only [sP]); omega) only [eV, h9]) hjn (dn ⟨rfl, rfl, rfl⟩)) ?_
    refine dP rfl rfl rfl (by rw [wS (b := true) rfl rfl (by (try simp (disch := (try simp only [sP]); omega) only [eV]) <;> (first | rfl | assumption))]; rfl) (by simp only [zP, hs]; decide) hS (fun w' hS' => rF (b := g) (o := 0 + j * 2) (by simp (disch := (try simp only [sP]); omega) only [eV]) (offs_inv H.fUnk (by decide)) (dn ⟨rfl, rfl, rfl⟩)) ?_
    refine dP rfl rfl rfl (by rw [wS (b := true) rfl rfl (by (try simp (disch := (try simp only [sP]); omega) only [eV]) <;> (first | rfl | assumption))]; rfl) (by simp only [zP, hs]; decide) hS (fun w' hS' => rL (b := g) (o := 0 + j * 2) (v := .int .u32 (kj : Int)) (by (try simp (disch := (try simp only [sP]); omega) only [eV]) <;> (first | rfl | assumption)) H.oU32 hS'.2 (dn ⟨rfl, rfl, rfl⟩)) ?_
    refine dP rfl rfl rfl (by rw [wS (b := true) rfl rfl (by (try simp (disch := (try simp only [sP]); omega) only [eV]) <;> (first | rfl | assumption))]; rfl) (by simp only [zP, hs]; decide) hS (fun w' hS' => rF (b := bb) (o := 0) (by simp (disch := (try simp only [sP]); omega) only [eV, h8]) (offs_inv H.fUnk (by decide)) (dn ⟨rfl, rfl, rfl⟩)) ?_
    refine dP rfl rfl rfl (by rw [wS (b := true) rfl rfl (by (try simp (disch := (try simp only [sP]); omega) only [eV]) <;> (first | rfl | assumption))]; rfl) (by simp only [zP, hs]; decide) hS (fun w' hS' => rL (b := bb) (o := 0) (v := .int .u32 (tk : Int)) (by (try simp (disch := (try simp only [sP]); omega) only [eV]) <;> (first | rfl | assumption)) H.oU32 hS'.1 (dn ⟨rfl, rfl, rfl⟩)) ?_
    refine dP rfl rfl rfl (by rw [wS (b := true) rfl rfl (by (try simp (disch := (try simp only [sP]); omega) only [eV]) <;> (first | rfl | assumption))]; rfl) (by simp only [zP, hs]; decide) hS (fun w' hS' => r_lss (k := .u32) (m := (kj : Int)) (n := (tk : Int)) (by simp (disch := (try simp only [sP]); omega) only [eV]) (by simp (disch := (try simp only [sP]); omega) only [eV]) (dn ⟨rfl, rfl, rfl⟩)) ?_
    refine dP rfl rfl rfl (wN rfl) (by simp only [zP, hs]; decide) hS (fun w' hS' => r_pickT (by simp (disch := (try simp only [sP]); omega) only [eV]) (dn ⟨rfl, rfl, rfl⟩)) ?_
    refine d_nil ?_
    refine hQ _ (by simp only [zP]; exact hs) (by simp only [dF]) (fun k hk => (by simp (disch := (try simp only [sP]); omega) only [eV])) ?_
    rw [hres]
    simp (disch := (try simp only [sP]); omega) only [eV]
  · have hres := hge hjn
    have hd : decide ((j : Int) < (n : Int)) = false := by simp; omega
    have hS : (fun W' : World => True) { V with drawn := V.drawn + 1 } := trivial
    refine vc_rgd [(0, true), (1, true), (2, true), (3, true), (4, true), (5, true), (6, true), (7, true), (8, true), (9, true), (10, true), (11, true), (12, true), (13, true)] (fun W' => True) HT.mixed (by kernel_rfl) rfl (by kernel_rfl) hpanic ?_
    refine dP rfl rfl rfl (wN rfl) (by simp only [zP, hs]; decide) hS (fun w' hS' => rM (dn ⟨rfl, rfl, rfl⟩)) ?_
    refine dP rfl rfl rfl (wN rfl) (by simp only [zP, hs]; decide) hS (fun w' hS' => rM (dn ⟨rfl, rfl, rfl⟩)) ?_
    refine dP rfl rfl rfl (wN rfl) (by simp only [zP, hs]; decide) hS (fun w' hS' => r_len (ad := ad) (n := n) (c := cap) hsl (by simp (disch := (try simp only [sP]); omega) only [eV, h6]) (dn ⟨rfl, rfl, rfl⟩)) ?_
    refine dP rfl rfl rfl (wN rfl) (by simp only [zP, hs]; decide) hS (fun w' hS' => r_lss (k := .i64) (m := (j : Int)) (n := (n : Int)) (by simp (disch := (try simp only [sP]); omega) only [eV, h9]) (by simp (disch := (try simp only [sP]); omega) only [eV]) (dn ⟨rfl, rfl, rfl⟩)) ?_
    rw [hd]
    refine dP rfl rfl rfl (wN rfl) (by simp only [zP, hs]; decide) hS (fun w' hS' => rM (dn ⟨rfl, rfl, rfl⟩)) ?_
    iterate 8 (refine d_no rfl rfl (by rw [wS (b := false) rfl rfl (by (try simp (disch := (try simp only [sP]); omega) only [eV]) <;> (first | rfl | assumption))]; rfl) hS ?_)
    refine dP rfl rfl rfl (wN rfl) (by simp only [zP, hs]; decide) hS (fun w' hS' => r_pickF (by simp (disch := (try simp only [sP]); omega) only [eV]) (dn ⟨rfl, rfl, rfl⟩)) ?_
    refine d_nil ?_
    refine hQ _ (by simp only [zP]; exact hs) (by simp only [dF]) (fun k hk => (by simp (disch := (try simp only [sP]); omega) only [eV])) ?_
    rw [hres]
    simp (disch := (try simp only [sP]); omega) only [eV]
theorem s_unkT2 (H : SEnv P E) (HT : STexts P E) {B : Act} {V : World} {Q : Exit → Act → World → Prop} {j n cap tk bb le : Nat} {ad : Option Addr} {res : Bool}
    (hs : B.tmps.size = 85) (h5 : B.eval (.tmp 5) = .int .u32 (le : Int)) (h9 : B.eval (.tmp 9) = .int .i64 (j : Int)) (h6 : B.eval (.tmp 6) = .slice ad n cap) (h8 : B.eval (.tmp 8) = .pointer (some ⟨bb, 0, none⟩)) (hk : V.cell? ⟨bb, 0, none⟩ = some (.int .u32 (tk : Int)))
    (hle : tk < le → res = true) (hlt : ¬ tk < le → j < n → ∃ g kj : Nat, ad = some ⟨g, 0, none⟩ ∧ V.cell? ⟨g, 0 + j * 2, none⟩ = some (.int .u32 (kj : Int)) ∧ res = decide ((kj : Int) = (tk : Int))) (hge : ¬ tk < le → ¬ j < n → res = false)
    (hpanic : ∀ c a a' w, Q (.panic c) a w → Q (.panic c) a' w)
    (hQ : ∀ A', A'.tmps.size = 85 → A'.defers = B.defers → (∀ k : Nat, k < 23 → A'.eval (.tmp k) = B.eval (.tmp k)) → A'.eval (.tmp 58) = .bool res → Q .normal A' { V with drawn := V.drawn + 1 }) :
    vc P (rgd [
      (oQ 39 (.fieldAddr E.tUnk (.tmp 8) 0) 0),
                    ⟨some 40, .load E.tW (.tmp 39), E.tW, "", #[⟨0, .data⟩], none⟩,
                    (oQ 41 (.move (.tmp 5)) E.tW),
                    ⟨some 42, .binOp .lss E.tW (.tmp 40) (.tmp 41) E.tW, E.tO, "", #[⟨1, .data⟩, ⟨2, .data⟩], none⟩,
                    ⟨some 43, .move (.tmp 42), E.tO, "", #[⟨3, .data⟩], none⟩,
                    ⟨some 44, .move (.tmp 9), E.tI, "", #[⟨4, .guard⟩], some (4, false)⟩,
                    ⟨some 45, .move (.tmp 6), E.tK, "", #[⟨4, .guard⟩], some (4, false)⟩,
                    ⟨some 46, .call { callee := .builtin .len, args := #[(.tmp 45)], argTypes := #[E.tK] }, E.tI, "", #[⟨6, .data⟩, ⟨4, .guard⟩], some (4, false)⟩,
                    ⟨some 47, .binOp .lss E.tI (.tmp 44) (.tmp 46) E.tI, E.tO, "", #[⟨5, .data⟩, ⟨7, .data⟩, ⟨4, .guard⟩], some (4, false)⟩,
                    ⟨some 48, .move (.tmp 47), E.tO, "", #[⟨8, .data⟩, ⟨4, .chain⟩, ⟨4, .guard⟩], some (4, false)⟩,
                    ⟨some 49, .move (.tmp 6), E.tK, "", #[⟨9, .guard⟩], some (9, true)⟩,
                    ⟨some 50, .move (.tmp 9), E.tI, "", #[⟨9, .guard⟩], some (9, true)⟩,
                    ⟨some 51, .indexAddr E.tK (.tmp 49) (.tmp 50), 0, "", #[⟨10, .data⟩, ⟨11, .data⟩, ⟨9, .guard⟩], some (9, true)⟩,
                    ⟨some 52, .fieldAddr E.tUnk (.tmp 51) 0, 0, "", #[⟨12, .data⟩, ⟨9, .guard⟩], some (9, true)⟩,
                    ⟨some 53, .load E.tW (.tmp 52), E.tW, "", #[⟨13, .data⟩, ⟨9, .guard⟩], some (9, true)⟩,
                    ⟨some 54, .fieldAddr E.tUnk (.tmp 8) 0, 0, "", #[⟨9, .guard⟩], some (9, true)⟩,
                    ⟨some 55, .load E.tW (.tmp 54), E.tW, "", #[⟨15, .data⟩, ⟨9, .guard⟩], some (9, true)⟩,
                    ⟨some 56, .binOp .eql E.tW (.tmp 53) (.tmp 55) E.tW, E.tO, "", #[⟨14, .data⟩, ⟨16, .data⟩, ⟨9, .guard⟩], some (9, true)⟩,
                    ⟨some 57, .pick (.tmp 48) (.tmp 56) (.const (.bool false)), E.tO, "", #[⟨9, .data⟩, ⟨17, .data⟩, ⟨4, .guard⟩], some (4, false)⟩,
                    ⟨some 58, .pick (.tmp 43) (.const (.bool true)) (.tmp 57), E.tO, "", #[⟨4, .data⟩, ⟨18, .data⟩], none⟩]) Q B V := by
  have hsl := rB H.rUnks
  by_cases hl : tk < le
  · have hres := hle hl
    have hd : decide ((tk : Int) < (le : Int)) = true := by simp; omega
    have hS : (fun W' : World => W'.cell? ⟨bb, 0, none⟩ = some (.int .u32 (tk : Int))) { V with drawn := V.drawn + 1 } := hk
    refine vc_rgd [(0, true), (1, true), (2, true), (3, true), (4, true), (5, true), (6, true), (7, true), (8, true), (9, true), (10, true), (11, true), (12, true), (13, true), (14, true), (15, true), (16, true), (17, true), (18, true), (19, true)] (fun W' => W'.cell? ⟨bb, 0, none⟩ = some (.int .u32 (tk : Int))) HT.mixed (by kernel_rfl) rfl (by kernel_rfl) hpanic ?_
    refine dP rfl rfl rfl (wN rfl) (by simp only [zP, hs]; decide) hS (fun w' hS' => rF (b := bb) (o := 0) (by simp (disch := (try simp only [sP]); omega) only [eV, h8]) (offs_inv H.fUnk (by decide)) (dn ⟨rfl, rfl, rfl⟩)) ?_
    refine dP rfl rfl rfl (wN rfl) (by simp only [zP, hs]; decide) hS (fun w' hS' => rL (b := bb) (o := 0) (v := .int .u32 (tk : Int)) (by (try simp (disch := (try simp only [sP]); omega) only [eV]) <;> (first | rfl | assumption)) H.oU32 hS' (dn ⟨rfl, rfl, rfl⟩)) ?_
    refine dP rfl rfl rfl (wN rfl) (by simp only [zP, hs]; decide) hS (fun w' hS' => rM (dn ⟨rfl, rfl, rfl⟩)) ?_
    refine dP rfl rfl rfl (wN rfl) (by simp only [zP, hs]; decide) hS (fun w' hS' => r_lss (k := .u32) (m := (tk : Int)) (n := (le : Int)) (by simp (disch := (try simp only [sP]); omega) only [eV]) (by simp (disch := (try simp only [sP]); omega) only [eV, h5]) (dn ⟨rfl, rfl, rfl⟩)) ?_
    rw [hd]
    refine dP rfl rfl rfl (wN rfl) (by simp only [zP, hs]; decide) hS (fun w' hS' => rM (dn ⟨rfl, rfl, rfl⟩)) ?_
    iterate 5 (refine d_no rfl rfl (by rw [wS (b := true) rfl rfl (by (try simp (disch := (try simp only [sP]); omega) only [eV]) <;> (first | rfl | assumption))]; rfl) hS ?_)
    iterate 8 (refine d_no rfl rfl (wants_undef rfl rfl (by (try simp (disch := (try simp only [sP]); omega) only [eV]) <;> (first | rfl | assumption)) (by simp only [zP, hs]; decide)) hS ?_)
    refine d_no rfl rfl (by rw [wS (b := true) rfl rfl (by (try simp (disch := (try simp only [sP]); omega) only [eV]) <;> (first | rfl | assumption))]; rfl) hS ?_
    refine dP rfl rfl rfl (wN rfl) (by simp only [zP, hs]; decide) hS (fun w' hS' => r_pickT (by simp (disch := (try simp only [sP]); omega) only [eV]) (dn ⟨rfl, rfl, rfl⟩)) ?_
    refine d_nil ?_
    refine hQ _ (by simp only [zP]; exact hs) (by simp only [dF]) (fun k hk => (by simp (disch := (try simp only [sP]); omega) only [eV])) ?_
    rw [hres]
    simp (disch := (try simp only [sP]); omega) only [eV]
  have hd : decide ((tk : Int) < (le : Int)) = false := by simp; omega
  by_cases hjn : j < n
  · obtain ⟨g, kj, rfl, hc, hres⟩ := hlt hl hjn
    have hd2 : decide ((j : Int) < (n : Int)) = true := by simp; omega
    have hS : (fun W' : World => W'.cell? ⟨bb, 0, none⟩ = some (.int .u32 (tk : Int)) ∧ W'.cell? ⟨g, 0 + j * 2, none⟩ = some (.int .u32 (kj : Int))) { V with drawn := V.drawn + 1 } := ⟨hk, hc⟩
    refine vc_rgd [(0, true), (1, true), (2, true), (3, true), (4, true), (5, true), (6, true), (7, true), (8, true), (9, true), (10, true), (11, true), (12, true), (13, true), (14, true), (15, true), (16, true), (17, true), (18, true), (19, true)] (fun W' => W'.cell? ⟨bb, 0, none⟩ = some (.int .u32 (tk : Int)) ∧ W'.cell? ⟨g, 0 + j * 2, none⟩ = some (.int .u32 (kj : Int))) HT.mixed (by kernel_rfl) rfl (by kernel_rfl) hpanic ?_
    refine dP rfl rfl rfl (wN rfl) (by simp only [zP, hs]; decide) hS (fun w' hS' => rF (b := bb) (o := 0) (by simp (disch := (try simp only [sP]); omega) only [eV, h8]) (offs_inv H.fUnk (by decide)) (dn ⟨rfl, rfl, rfl⟩)) ?_
    refine dP rfl rfl rfl (wN rfl) (by simp only [zP, hs]; decide) hS (fun w' hS' => rL (b := bb) (o := 0) (v := .int .u32 (tk : Int)) (by (try simp (disch := (try simp only [sP]); omega) only [eV]) <;> (first | rfl | assumption)) H.oU32 hS'.1 (dn ⟨rfl, rfl, rfl⟩)) ?_
    refine dP rfl rfl rfl (wN rfl) (by simp only [zP, hs]; decide) hS (fun w' hS' => rM (dn ⟨rfl, rfl, rfl⟩)) ?_
    refine dP rfl rfl rfl (wN rfl) (by simp only [zP, hs]; decide) hS (fun w' hS' => r_lss (k := .u32) (m := (tk : Int)) (n := (le : Int)) (by simp (disch := (try simp only [sP]); omega) only [eV]) (by simp (disch := (try simp only [sP]); omega) only [eV, h5]) (dn ⟨rfl, rfl, rfl⟩)) ?_
    rw [hd]
    refine dP rfl rfl rfl (wN rfl) (by simp only [zP, hs]; decide) hS (fun w' hS' => rM (dn ⟨rfl, rfl, rfl⟩)) ?_
    refine dP rfl rfl rfl (by rw [wS (b := false) rfl rfl (by (try simp (disch := (try simp only [sP]); omega) only [eV]) <;> (first | rfl | assumption))]; rfl) (by simp only [zP, hs]; decide) hS (fun w' hS' => rM (dn ⟨rfl, rfl, rfl⟩)) ?_
    refine dP rfl rfl rfl (by rw [wS (b := false) rfl rfl (by (try simp (disch := (try simp only [sP]); omega) only [eV]) <;> (first | rfl | assumption))]; rfl) (by simp only [zP, hs]; decide) hS (fun w' hS' => rM (dn ⟨rfl, rfl, rfl⟩)) ?_
    refine dP rfl rfl rfl (by rw [wS (b := false) rfl rfl (by (try simp (disch := (try simp only [sP]); omega) only [eV]) <;> (first | rfl | assumption))]; rfl) (by simp only [zP, hs]; decide) hS (fun w' hS' => r_len (ad := some ⟨g, 0, none⟩) (n := n) (c := cap) hsl (by simp (disch := (try simp only [sP]); omega) only [eV, h6]) (dn ⟨rfl, rfl, rfl⟩)) ?_
    refine dP rfl rfl rfl (by rw [wS (b := false) rfl rfl (by (try simp (disch := (try simp only [sP]); omega) only [eV]) <;> (first | rfl | assumption))]; rfl) (by simp only [zP, hs]; decide) hS (fun w' hS' => r_lss (k := .i64) (m := (j : Int)) (n := (n : Int)) (by simp (disch := (try simp only [sP]); omega) only [eV, h9]) (by simp (disch := (try simp only [sP]); omega) only [eV]) (dn ⟨rfl, rfl, rfl⟩)) ?_
    rw [hd2]
    refine dP rfl rfl rfl (by rw [wS (b := false) rfl rfl (by (try simp (disch := (try simp only [sP]); omega) only [eV]) <;> (first | rfl | assumption))]; rfl) (by simp only [zP, hs]; decide) hS (fun w' hS' => rM (dn ⟨rfl, rfl, rfl⟩)) ?_
    refine dP rfl rfl rfl (by rw [wS (b := true) rfl rfl (by (try simp (disch := (try simp only [sP]); omega) only [eV]) <;> (first | rfl | assumption))]; rfl) (by simp only [zP, hs]; decide) hS (fun w' hS' => rM (dn ⟨rfl, rfl, rfl⟩)) ?_
    refine dP rfl rfl rfl (by rw [wS (b := true) rfl rfl (by (try simp (disch := (try simp only [sP]); omega) only [eV]) <;> (first | rfl | assumption))]; rfl) (by simp only [zP, hs]; decide) hS (fun w' hS' => rM (dn ⟨rfl, rfl, rfl⟩)) ?_
    refine dP rfl rfl rfl (by rw [wS (b := true) rfl rfl (by (try simp (disch := (try simp only [sP]); omega) only [eV]) <;> (first | rfl | assumption))]; rfl) (by simp only [zP, hs]; decide) hS (fun w' hS' => r_index (k := .i64) (j := j) (b := g) (o := 0) (len := n) (cap := cap) hsl (by simp (disch := (try simp only [sP]); omega) only [eV, h6]) (by simp (disch := (try simp only [sP]); omega) only [eV, h9]) hjn (dn ⟨rfl, rfl, rfl⟩)) ?_
    refine dP rfl rfl rfl (by rw [wS (b := true) rfl rfl (by (try simp (disch := (try simp only [sP]); omega) only [eV]) <;> (first | rfl | assumption))]; rfl) (by simp only [zP, hs]; decide) hS (fun w' hS' => rF (b := g) (o := 0 + j * 2) (by simp (disch := (try simp only [sP]); omega) only [eV]) (offs_inv H.fUnk (by decide)) (dn ⟨rfl, rfl, rfl⟩)) ?_
    refine dP rfl rfl rfl (by rw [wS (b := true) rfl rfl (by (try simp (disch := (try simp only [sP]); omega) only [eV]) <;> (first | rfl | assumption))]; rfl) (by simp only [zP, hs]; decide) hS (fun w' hS' => rL (b := g) (o := 0 + j * 2) (v := .int .u32 (kj : Int)) (by (try simp (disch := (try simp only [sP]); omega) only [eV]) <;> (first | rfl | assumption)) H.oU32 hS'.2 (dn ⟨rfl, rfl, rfl⟩)) ?_
    refine dP rfl rfl rfl (by rw [wS (b := true) rfl rfl (by (try simp (disch := (try simp only [sP]); omega) only [eV]) <;> (first | rfl | assumption))]; rfl) (by simp only [zP, hs]; decide) hS (fun w' hS' => rF (b := bb) (o := 0) (by simp (disch := (try simp only [sP]); omega) only [eV, h8]) (offs_inv H.fUnk (by decide)) (dn ⟨rfl, rfl, rfl⟩)) ?_
    refine dP rfl rfl rfl (by rw [wS (b := true) rfl rfl (by (try simp (disch := (try simp only [sP]); omega) only [eV]) <;> (first | rfl | assumption))]; rfl) (by simp only [zP, hs]; decide) hS (fun w' hS' => rL (b := bb) (o := 0) (v := .int .u32 (tk : Int)) (by (try simp (disch := (try simp only [sP]); omega) only [eV]) <;> (first | rfl | assumption)) H.oU32 hS'.1 (dn ⟨rfl, rfl, rfl⟩)) ?_
    refine dP rfl rfl rfl (by rw [wS (b := true) rfl rfl (by (try simp (disch := (try simp only [sP]); omega) only [eV]) <;> (first | rfl | assumption))]; rfl) (by simp only [zP, hs]; decide) hS (fun w' hS' => r_eql (k := .u32) (m := (kj : Int)) (n := (tk : Int)) (by simp (disch := (try simp only [sP]); omega) only [eV]) (by simp (disch := (try simp only [sP]); omega) only [eV]) (dn ⟨rfl, rfl, rfl⟩)) ?_
    refine dP rfl rfl rfl (by rw [wS (b := false) rfl rfl (by (try simp (disch := (try simp only [sP]); omega) only [eV]) <;> (first | rfl | assumption))]; rfl) (by simp only [zP, hs]; decide) hS (fun w' hS' => r_pickT (by simp (disch := (try simp only [sP]); omega) only [eV]) (dn ⟨rfl, rfl, rfl⟩)) ?_
    refine dP rfl rfl rfl (wN rfl) (by simp only [zP, hs]; decide) hS (fun w' hS' => r_pickF (by simp (disch := (try simp only [sP]); omega) only [eV]) (dn ⟨rfl, rfl, rfl⟩)) ?_
    refine d_nil ?_
    refine hQ _ (by simp only [zP]; exact hs) (by simp only [dF]) (fun k hk => (by simp (disch := (try simp only [sP]); omega) only [eV])) ?_
    rw [hres]
    simp (disch := (try simp only [sP]); omega) only [eV]
    rfl
  · have hres := hge hl hjn
    have hd2 : decide ((j : Int) < (n : Int)) = false := by simp; omega
    have hS : (fun W' : World => W'.cell? ⟨bb, 0, none⟩ = some (.int .u32 (tk : Int))) { V with drawn := V.drawn + 1 } := hk
    refine vc_rgd [(0, true), (1, true), (2, true), (3, true), (4, true), (5, true), (6, true), (7, true), (8, true), (9, true), (10, true), (11, true), (12, true), (13, true), (14, true), (15, true), (16, true), (17, true), (18, true), (19, true)] (fun W' => W'.cell? ⟨bb, 0, none⟩ = some (.int .u32 (tk : Int))) HT.mixed (by kernel_rfl) rfl (by kernel_rfl) hpanic ?_
    refine dP rfl rfl rfl (wN rfl) (by simp only [zP, hs]; decide) hS (fun w' hS' => rF (b := bb) (o := 0) (by simp (disch := (try simp only [sP]); omega) only [eV, h8]) (offs_inv H.fUnk (by decide)) (dn ⟨rfl, rfl, rfl⟩)) ?_
    refine dP rfl rfl rfl (wN rfl) (by simp only [zP, hs]; decide) hS (fun w' hS' => rL (b := bb) (o := 0) (v := .int .u32 (tk : Int)) (by (try simp (disch := (try simp only [sP]); omega) only [eV]) <;> (first | rfl | assumption)) H.oU32 hS' (dn ⟨rfl, rfl, rfl⟩)) ?_
    refine dP rfl rfl rfl (wN rfl) (by simp only [zP, hs]; decide) hS (fun w' hS' => rM (dn ⟨rfl, rfl, rfl⟩)) ?_
    refine dP rfl rfl rfl (wN rfl) (by simp only [zP, hs]; decide) hS (fun w' hS' => r_lss (k := .u32) (m := (tk : Int)) (n := (le : Int)) (by simp (disch := (try simp only [sP]); omega) only [eV]) (by simp (disch := (try simp only [sP]); omega) only [eV, h5]) (dn ⟨rfl, rfl, rfl⟩)) ?_
    rw [hd]
    refine dP rfl rfl rfl (wN rfl) (by simp only [zP, hs]; decide) hS (fun w' hS' => rM (dn ⟨rfl, rfl, rfl⟩)) ?_
    refine dP rfl rfl rfl (by rw [wS (b := false) rfl rfl (by (try simp (disch := (try simp only [sP]); omega) only [eV]) <;> (first | rfl | assumption))]; rfl) (by simp only [zP, hs]; decide) hS (fun w' hS' => rM (dn ⟨rfl, rfl, rfl⟩)) ?_
    refine dP rfl rfl rfl (by rw [wS (b := false) rfl rfl (by (try simp (disch := (try simp only [sP]); omega) only [eV]) <;> (first | rfl | assumption))]; rfl) (by simp only [zP, hs]; decide) hS (fun w' hS' => rM (dn ⟨rfl, rfl, rfl⟩)) ?_
    refine dP rfl rfl rfl (by rw [wS (b := false) rfl rfl (by (try simp (disch := (try simp only [sP]); omega) only [eV]) <;> (first | rfl | assumption))]; rfl) (by simp only [zP, hs]; decide) hS (fun w' hS' => r_len (ad := ad) (n := n) (c := cap) hsl (by simp (disch := (try simp only [sP]); omega) only [eV, h6]) (dn ⟨rfl, rfl, rfl⟩)) ?_
    refine dP rfl rfl rfl (by rw [wS (b := false) rfl rfl (by (try simp (disch := (try simp only [sP]); omega) only [eV]) <;> (first | rfl | assumption))]; rfl) (by simp only [zP, hs]; decide) hS (fun w' hS' => r_lss (k := .i64) (m := (j : Int)) (n := (n : Int)) (by simp (disch := (try simp only [sP]); omega) only [eV, h9]) (by simp (disch := (try simp only [sP]); omega) only [eV]) (dn ⟨rfl, rfl, rfl⟩)) ?_
    rw [hd2]
    refine dP rfl rfl rfl (by rw [wS (b := false) rfl rfl (by (try simp (disch := (try simp only [sP]); omega) only [eV]) <;> (first | rfl | assumption))]; rfl) (by simp only [zP, hs]; decide) hS (fun w' hS' => rM (dn ⟨rfl, rfl, rfl⟩)) ?_
    iterate 8 (refine d_no rfl rfl (by rw [wS (b := false) rfl rfl (by (try simp (disch := (try simp only [sP]); omega) only [eV]) <;> (first | rfl | assumption))]; rfl) hS ?_)
    refine dP rfl rfl rfl (by rw [wS (b := false) rfl rfl (by (try simp (disch := (try simp only [sP]); omega) only [eV]) <;> (first | rfl | assumption))]; rfl) (by simp only [zP, hs]; decide) hS (fun w' hS' => r_pickF (by simp (disch := (try simp only [sP]); omega) only [eV]) (dn ⟨rfl, rfl, rfl⟩)) ?_
    refine dP rfl rfl rfl (wN rfl) (by simp only [zP, hs]; decide) hS (fun w' hS' => r_pickF (by simp (disch := (try simp only [sP]); omega) only [eV]) (dn ⟨rfl, rfl, rfl⟩)) ?_
    refine d_nil ?_
    refine hQ _ (by simp only [zP]; exact hs) (by simp only [dF]) (fun k hk => (by simp (disch := (try simp only [sP]); omega) only [eV])) ?_
    rw [hres]
    simp (disch := (try simp only [sP]); omega) only [eV]
end
end Go.Km
