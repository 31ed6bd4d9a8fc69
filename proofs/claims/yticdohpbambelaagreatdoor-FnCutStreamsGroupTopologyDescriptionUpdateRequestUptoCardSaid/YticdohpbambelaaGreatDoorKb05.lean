/- Tags: Each. Tags: the writer's part, with tags. -/
import Derived.Test.YticdohpbambelaaGreatDoorKb04
set_option linter.unusedSimpArgs false
set_option linter.unusedVariables false
namespace Go.Km
open Go Go.RowKit Go.ChangeMaps
attribute [local irreducible] vc rO_ runG runS runD
theorem perm_sorted_eq : ∀ (a b : List Nat), a.Perm b → a.Pairwise (· ≤ ·) → b.Pairwise (· < ·) → a = b
 | [], b, h, _, _ => (List.nil_perm.1 h).symm
 | x :: a, [], h, _, _ => by have := h.length_eq; simp at this
 | x :: a, y :: b, h, h1, h2 => by
  have h3 := List.pairwise_cons.1 h1
  have h4 := List.pairwise_cons.1 h2
  have hx : x ∈ y :: b := h.mem_iff.1 (by simp)
  have hy : y ∈ x :: a := h.mem_iff.2 (by simp)
  have e : x = y := by
   rcases List.mem_cons.1 hx with rfl | hx
   ·rfl
   ·rcases List.mem_cons.1 hy with rfl | hy
    ·rfl
    ·have := h4.1 x hx
     have := h3.1 y hy
     omega
  subst e
  rw [perm_sorted_eq a b h.cons_inv h3.2 h4.2]
theorem tag_unique {tags : List (Nat × List UInt8)} (h : tags.Pairwise (fun x y => x.1 < y.1)) {x y : Nat × List UInt8} (hx : x ∈ tags) (hy : y ∈ tags) (e : x.1 = y.1) : x = y := by
 induction tags with
 | nil => simp at hx
 | cons z l ih =>
  have h2 := List.pairwise_cons.1 h
  rcases List.mem_cons.1 hx with hx1 | hx1
  ·rcases List.mem_cons.1 hy with hy1 | hy1
   ·rw [hx1, hy1]
   ·have := h2.1 y hy1; rw [hx1] at e; omega
  ·rcases List.mem_cons.1 hy with hy1 | hy1
   ·have := h2.1 x hx1; rw [hy1] at e; omega
   ·exact ih h2.2 hx1 hy1
theorem tag_find {l tags : List (Nat × List UInt8)} (hp : l.Perm tags) (h : tags.Pairwise (fun x y => x.1 < y.1)) {x : Nat × List UInt8} (hx : x ∈ tags) : ∃ j, l.findIdx? (·.1 == x.1) = some j ∧ l[j]? = some x := by
 have hxl : x ∈ l := hp.mem_iff.2 hx
 cases hf : l.findIdx? (·.1 == x.1) with
 | none =>
  have := List.findIdx?_eq_none_iff.1 hf x hxl
  simp at this
 | some j =>
  obtain ⟨hj, hk, _⟩ := List.findIdx?_eq_some_iff_getElem.1 hf
  have hk : (l[j]).1 = x.1 := by simpa using hk
  refine ⟨j, rfl, ?_⟩
  rw [List.getElem?_eq_getElem hj, tag_unique h (hp.mem_iff.1 (List.getElem_mem hj)) hx hk]
def TagIn (P : Program) (E : Env) (w : World) (U : Nat) (v : Value) (tags : List (Nat × List UInt8)) : Prop :=
 TagsOk tags ∧ ((v = .map none ∧ tags = []) ∨ ∃ (q : Nat) (es : Array MapEntry) (clock : Nat) (l : List (Nat × List UInt8)), v = .map (some q) ∧ q < U ∧ w.heap[q]? = some (.map es clock) ∧ (∀ e ∈ es.toList, e.born < clock) ∧ (es.toList.map (·.born)).Nodup ∧ l.Perm tags ∧ l.length = es.size ∧
  ∀ (i : Nat) (x : Nat × List UInt8), l[i]? = some x → ∃ e : MapEntry, es[i]? = some e ∧ e.key = .int .u32 (x.1 : Int) ∧ (∃ ad cap, e.val = .slice ad x.2.length cap) ∧ ∀ w', Below U w w' → Src P 1 E.tB e.val x.2.length (x.2.map bv) w')
theorem flat_take {tags : List (Nat × List UInt8)} {i : Nat} (hi : i < tags.length) : ((tags.take i).map wrTag).flatten.length + (wrTag tags[i]).length ≤ (tags.map wrTag).flatten.length := by
 have e : tags = tags.take i ++ tags[i] :: tags.drop (i + 1) := by
  rw [List.getElem_cons_drop, List.take_append_drop]
 have := congrArg (fun t => (t.map wrTag).flatten.length) e
 simp only [List.map_append, List.map_cons, List.flatten_append, List.flatten_cons, List.length_append] at this
 omega
section
variable {P : Program} {E : Env}
set_option maxHeartbeats 4000000 in
theorem k_gAll (HT : TagT P E) (HS : SortE P E) (ht : Text P E.gAll 2 53 #[] (c_gAll E)) (ii : intT P E.tI = some .i64)
  (hg1 : ∀ {w : World} {U db k : Nat} {dv val : Value} {xs l : List UInt8}, DSt E U db w dv xs → k < 4294967296 → (∃ ad cap, val = .slice ad l.length cap) → (∀ w', Below U w w' → Src P 1 E.tB val l.length (l.map bv) w') → xs.length + (wrTag (k, l)).length ≤ big →
   CallsV P E.gEach1 #[.int .u32 (k : Int), val, .pointer (some ⟨db, 0, none⟩)] w fun _ w' => ∃ dv', DSt E U db w' dv' (xs ++ wrTag (k, l)) ∧ DKeep U db w dv w' dv')
  {w : World} {U b o db : Nat} {v dv : Value} {xs : List UInt8} {tags : List (Nat × List UInt8)} (hcv : w.cell? ⟨b, o, none⟩ = some v) (hbU : b < U) (htg : TagIn P E w U v tags) (hd : DSt E U db w dv xs) (hn32 : tags.length ≤ big) (hbg : xs.length + (tags.map wrTag).flatten.length ≤ big) :
  CallsV P E.gAll #[.pointer (some ⟨b, o, none⟩), .func (.func E.gEach1) #[] #[.pointer (some ⟨db, 0, none⟩)]] w fun _ w' => ∃ dv', DSt E U db w' dv' (xs ++ (tags.map wrTag).flatten) ∧ Below U w w' := by
 obtain ⟨hok, htg⟩ := htg
 have hbig : big ≤ 2147483000 := Nat.le_refl _
 have hdb : db < w.heap.size := lt_of_cell hd.cell
 have hUdb := hd.U
 have hlen : (v = .map none ∧ tags.length = 0) ∨ ∃ q es clock, v = .map (some q) ∧ w.heap[q]? = some (.map es clock) ∧ es.size = tags.length := by
  rcases htg with ⟨h1, rfl⟩ | ⟨q, es, clock, l, h1, _, h2, _, _, hp, hl, _⟩
  ·exact .inl ⟨h1, rfl⟩
  ·exact .inr ⟨q, es, clock, h1, h2, by rw [← hl]; exact hp.length_eq⟩
 refine CallsV.enter ht (by simp) ?_
 intro a hsz hdf harg
 have e0 := harg 0 (.pointer (some ⟨b, o, none⟩)) (by simp)
 have e1 := harg 1 (.func (.func E.gEach1) #[] #[.pointer (some ⟨db, 0, none⟩)]) (by simp)
 generalize hfv : Value.func (.func E.gEach1) #[] #[.pointer (some ⟨db, 0, none⟩)] = fv at *
 unfold c_gAll
 refine vS (vX (rM ?_))
 refine r_nil (ad := ⟨b, o, none⟩) (by simp (disch := (try simp only [sP]); omega) only [eV, e0]) ?_
 refine rF (b := b) (o := o) (by simp (disch := (try simp only [sP]); omega) only [eV]) HT.f0 ?_
 refine rL (b := b) (o := o + 0) (v := v) (by simp (disch := (try simp only [sP]); omega) only [eV]) HT.oMap hcv ?_
 refine r_lenMap (v := v) (n := tags.length) HT.map (by simp (disch := (try simp only [sP]); omega) only [eV]) hlen ?_
 refine r_eql (k := .i64) (m := ((tags.length : Nat) : Int)) (n := 0) (by simp (disch := (try simp only [sP]); omega) only [eV]) rfl ?_
 refine dn ?_
 refine vS (vC (t := (((tags.length : Nat) : Int) == 0)) (by simp (disch := (try simp only [sP]); omega) only [eV]) ?_ ?_)
 ·intro h
  have h0 : tags = [] := by
   have : tags.length = 0 := by simp only [beq_iff_eq] at h; omega
   exact List.eq_nil_of_length_eq_zero this
  subst h0
  refine vT ?_
  exact ⟨by simp only [dF]; exact hdf, .tuple #[], by simp [results], dv, by simpa using hd, Below.refl _ _⟩
 intro h
 have hne : 1 ≤ tags.length := by
  rcases Nat.eq_zero_or_pos tags.length with h0 | h0
  ·rw [h0] at h; simp at h
  ·exact h0
 refine vK (vN ?_)
 rcases htg with ⟨_, rfl⟩ | ⟨q, es, clock, l, rfl, hqU, hq, hborn, hnod, hperm, hll, hent⟩
 ·simp at hne
 have hkeys : ∀ (i : Nat) x, l[i]? = some x → ∃ e : MapEntry, es[i]? = some e ∧ e.key = .int .u32 (x.1 : Int) := fun i x hx => by obtain ⟨e, h1, h2, _⟩ := hent i x hx; exact ⟨e, h1, h2⟩
 have hqlt : q < w.heap.size := (Array.getElem?_eq_some_iff.1 hq).1
 have hblt : b < w.heap.size := lt_of_cell hcv
 -- the row of numbers
 refine vX (rM ?_)
 refine r_nil (ad := ⟨b, o, none⟩) (by simp (disch := (try simp only [sP]); omega) only [eV, e0]) ?_
 refine rF (b := b) (o := o) (by simp (disch := (try simp only [sP]); omega) only [eV]) HT.f0 ?_
 refine rL (b := b) (o := o + 0) (v := .map (some q)) (by simp (disch := (try simp only [sP]); omega) only [eV]) HT.oMap hcv ?_
 refine r_lenMap (v := .map (some q)) (n := tags.length) HT.map (by simp (disch := (try simp only [sP]); omega) only [eV]) hlen ?_
 refine r_makeSlice (n := tags.length) HS.row rfl (by simp (disch := (try simp only [sP]); omega) only [eV]) hn32 ?_
 intro w1 hown1 hb1 hz1
 refine r_alloc HS.zU32s ?_
 have hf1 : Free (w1.alloc (.cells (Value.slice none 0 0).cells E.tU32s)) w1.heap.size 0 := free_new w1 _ _ (by simp [Value.cells])
 refine r_store (b := w1.heap.size) (o := 0) (v := .slice (some ⟨w.heap.size, 0, none⟩) 0 tags.length) (by simp (disch := (try simp only [sP]); omega) only [eV]) (by simp (disch := (try simp only [sP]); omega) only [eV]) rfl HS.oU32s hf1 ?_
 refine dn ?_
 have hb2 : Below w.heap.size w ((w1.alloc (.cells (Value.slice none 0 0).cells E.tU32s)).setCell ⟨w1.heap.size, 0, none⟩ (.slice (some ⟨w.heap.size, 0, none⟩) 0 tags.length)) :=
  (hb1.alloc (o := .cells _ _) (by omega)).setCell (p := ⟨w1.heap.size, 0, none⟩) (by show w.heap.size ≤ w1.heap.size; omega) _
 have hc2 : ((w1.alloc (.cells (Value.slice none 0 0).cells E.tU32s)).setCell ⟨w1.heap.size, 0, none⟩ (.slice (some ⟨w.heap.size, 0, none⟩) 0 tags.length)).cell? ⟨w1.heap.size, 0, none⟩ = some (.slice (some ⟨w.heap.size, 0, none⟩) 0 tags.length) := cell_setCell_same _ hf1.1
 have hf2 : Free ((w1.alloc (.cells (Value.slice none 0 0).cells E.tU32s)).setCell ⟨w1.heap.size, 0, none⟩ (.slice (some ⟨w.heap.size, 0, none⟩) 0 tags.length)) w1.heap.size 0 := hf1.eff ((Eff.refl (fun k _ => k = w1.heap.size) _).setCell _ _ _ (fun _ => rfl))
 have hown2 : ((w1.alloc (.cells (Value.slice none 0 0).cells E.tU32s)).setCell ⟨w1.heap.size, 0, none⟩ (.slice (some ⟨w.heap.size, 0, none⟩) 0 tags.length)).ownsRow w.heap.size E.tW 1 (.slice (some ⟨w.heap.size, 0, none⟩) 0 tags.length) 0 [] := by
  refine own_heapG (hown1.alloc _) (fun g hg => Below.heap_setCell _ _ _ _ ?_)
  simp only [Value.ownBlock, Option.some.injEq] at hg
  show g ≠ w1.heap.size
  omega
 have hz2 : ((w1.alloc (.cells (Value.slice none 0 0).cells E.tU32s)).setCell ⟨w1.heap.size, 0, none⟩ (.slice (some ⟨w.heap.size, 0, none⟩) 0 tags.length)).heap.size = w.heap.size + 2 := by simp; omega
 generalize (w1.alloc (.cells (Value.slice none 0 0).cells E.tU32s)).setCell ⟨w1.heap.size, 0, none⟩ (.slice (some ⟨w.heap.size, 0, none⟩) 0 tags.length) = w2 at *
 generalize ha1 : Act.put _ (some 4) _ = a1
 have hfr1 : Fr (fun k => k < 2) a a1 := by
  subst ha1
  exact ((((((((((((((Fr.refl _ a).put _ (by omega)).put _ (by omega)).put _ (by omega)).put _ (by omega)).put _ (by omega)).put _ (by omega)).put _ (by omega)).put _ (by omega)).put _ (by omega)).put _ (by omega)).put _ (by omega)).put _ (by omega)).put _ (by omega))
 have h14 : a1.eval (.tmp 4) = .pointer (some ⟨w1.heap.size, 0, none⟩) := by subst ha1; simp (disch := (try simp only [sP]); omega) only [eV]
 have hs1 := hfr1.size
 clear ha1
 generalize hob : w1.heap.size = ob at *
 have hoB : ob = w.heap.size + 1 := by omega
 -- the range
 refine vS (vX (rM ?_))
 refine r_nil (ad := ⟨b, o, none⟩) (by simp (disch := (try simp only [sP]); omega) only [eV, hfr1.slot 0 (by omega), e0]) ?_
 refine rF (b := b) (o := o) (by simp (disch := (try simp only [sP]); omega) only [eV]) HT.f0 ?_
 refine rL (b := b) (o := o + 0) (v := .map (some q)) (by simp (disch := (try simp only [sP]); omega) only [eV]) HT.oMap (by rw [hb2.cell (p := ⟨b, o + 0, none⟩) hblt]; exact hcv) ?_
 refine r_range (q := q) (es := es) (clock := clock) HT.map (by simp (disch := (try simp only [sP]); omega) only [eV]) (by rw [hb2.block q hqlt]; exact hq) ?_
 refine dn ?_
 have hb3 : Below w.heap.size w (w2.alloc (.mapIter (some q) clock #[] clock)) := hb2.alloc (o := .mapIter _ _ _ _) (by omega)
 have hr3 : (w2.alloc (.mapIter (some q) clock #[] clock)).heap[w2.heap.size]? = some (.mapIter (some q) clock #[] clock) := heap_alloc_new w2 _
 have hh3 : ∀ k, k < w2.heap.size → (w2.alloc (.mapIter (some q) clock #[] clock)).heap[k]? = w2.heap[k]? := fun k hk => Below.heap_alloc w2 _ k hk
 generalize w2.alloc (.mapIter (some q) clock #[] clock) = w3 at *
 generalize hrr : w2.heap.size = rr at *
 generalize ha2 : Act.put _ (some 24) _ = a2
 have hfr2 : Fr (fun k => k < 5) a1 a2 := by
  subst ha2
  exact (((((Fr.refl _ a1).put _ (by omega)).put _ (by omega)).put _ (by omega)).put _ (by omega)).put _ (by omega)
 have h24 : a2.eval (.tmp 24) = .pointer (some ⟨rr, 0, none⟩) := by subst ha2; simp (disch := (try simp only [sP]); omega) only [eV]
 have hs2 := hfr2.size
 clear ha2
 refine vS (vc_block (vc_loop (fun A W => ∃ (seen : Array Nat) (ks : List Nat) (sv : Value), A.tmps.size = 53 ∧ A.defers = [] ∧ A.eval (.tmp 0) = .pointer (some ⟨b, o, none⟩) ∧ A.eval (.tmp 1) = fv ∧ A.eval (.tmp 4) = .pointer (some ⟨ob, 0, none⟩) ∧ A.eval (.tmp 24) = .pointer (some ⟨rr, 0, none⟩) ∧
   Below w.heap.size w W ∧ rr < W.heap.size ∧ W.heap[rr]? = some (.mapIter (some q) clock seen clock) ∧ W.cell? ⟨ob, 0, none⟩ = some sv ∧ Free W ob 0 ∧ W.ownsRow w.heap.size E.tW 1 sv ks.length (ks.map encU) ∧ sv.ownBlock ≠ some ob ∧ sv.ownBlock ≠ some rr ∧ (ks ++ (leftOf es seen).toList.map keyOf).Perm (l.map (·.1)))
  (fun _ W => match W.heap[rr]? with | some (.mapIter _ _ seen _) => (leftOf es seen).size | _ => 0) ?_ ?_))
 ·refine ⟨#[], [], .slice (some ⟨w.heap.size, 0, none⟩) 0 tags.length, by rw [hs2, hs1, hsz], by rw [hfr2.defers, hfr1.defers, hdf], by rw [hfr2.slot 0 (by omega), hfr1.slot 0 (by omega)]; exact e0, by rw [hfr2.slot 1 (by omega), hfr1.slot 1 (by omega)]; exact e1, by rw [hfr2.slot 4 (by omega)]; exact h14, h24, hb3, (Array.getElem?_eq_some_iff.1 hr3).1, hr3, by rw [cell_at (hh3 ob (by omega))]; exact hc2, free_at (hh3 ob (by omega)) hf2, own_heapG hown2 (fun g hg => ?_), ?_, ?_, ?_⟩
  ·simp only [Value.ownBlock, Option.some.injEq] at hg
   exact hh3 g (by omega)
  ·simp only [Value.ownBlock, ne_eq, Option.some.injEq]; omega
  ·simp only [Value.ownBlock, ne_eq, Option.some.injEq]; omega
  ·have e : (leftOf es #[]).toList = es.toList := by unfold leftOf; simp
   rw [List.nil_append, e, keys_eq hll hkeys]
 ·rintro A W ⟨seen, ks, sv, hsA, hdA, g0, g1, g4, g24, hbW, hrW, hit, hcs, hfs, hown, hne1, hne2, hpm⟩
  have hqW : W.heap[q]? = some (.map es clock) := by rw [hbW.block q hqlt]; exact hq
  refine vX ?_
  refine r_next (rr := rr) (q := q) (es := es) (clock := clock) (seen := seen) g24 hit hqW hborn ?_ ?_
  ·intro hz
   refine r_extract (vs := #[.bool false]) (v := .bool false) (by simp (disch := (try simp only [sP]); omega) only [eV]) rfl ?_
   refine dn ?_
   refine vS (vC (t := false) (by simp (disch := (try simp only [sP]); omega) only [eV]) (fun h => by cases h) ?_)
   intro _
   refine vc_exit ?_
   simp only [Exit.then, Exit.inBlock, if_true]
   refine vN ?_
   have hks : ks.Perm (l.map (·.1)) := by
    have e : (leftOf es seen).toList = [] := by
     have : (leftOf es seen) = #[] := Array.eq_empty_of_size_eq_zero hz
     rw [this]
    rw [e] at hpm
    simpa using hpm
   have hkn : ks.length = tags.length := by rw [hks.length_eq, List.length_map, hperm.length_eq]
   -- the sort
   refine vX ?_
   refine rL (b := ob) (o := 0) (v := sv) (by simp (disch := (try simp only [sP]); omega) only [eV, g4]) HS.oU32s hcs ?_
   refine r_makeIface (rowB_inv HS.row).1 ?_
   refine r_makeFunc ?_
   refine r_call' (args := #[.iface E.tU32s sv, .func (.func E.gAll1) #[] #[.pointer (some ⟨ob, 0, none⟩)]]) ?_ (k_sort HS (ob := ob) (n := ks.length) (ks := ks) hown rfl (by omega) (by omega) hcs (fun x c e => fun e2 => hne1 (by rw [e, ← e2]; rfl))) ?_
   ·simp only [lM]
    simp (disch := (try simp only [sP]); omega) only [eV, g4]
   rintro _ w5 ⟨blk, cap, ks', rfl, hUb, hblk, hp', hso, hcel, hE5⟩
   have hks' : ks' = tags.map (·.1) := perm_sorted_eq _ _ ((hp'.trans hks).trans (hperm.map _)) hso (List.pairwise_map.2 hok.1)
   refine dn ?_
   have hz5 := hE5.size
   have hobk : ob ≠ blk := fun e => hne1 (by rw [e]; rfl)
   have hc5 : w5.cell? ⟨ob, 0, none⟩ = some (.slice (some ⟨blk, 0, none⟩) ks.length cap) := hE5.cellSome hcs hobk
   have hb5 : Below w.heap.size w w5 := hbW.trans (hE5.below hbW.size (by rintro k i hk rfl; omega))
   refine vX ?_
   refine rL (b := ob) (o := 0) (v := .slice (some ⟨blk, 0, none⟩) ks.length cap) (by simp (disch := (try simp only [sP]); omega) only [eV, g4]) HS.oU32s hc5 ?_
   refine r_len (ad := some ⟨blk, 0, none⟩) (n := ks.length) (c := cap) (rB HS.row) (by simp (disch := (try simp only [sP]); omega) only [eV]) ?_
   refine rM (dn ?_)
   generalize hA5 : Act.put _ (some 39) _ = A5
   have hfr5 : Fr (fun k => k < 25) A A5 := by
    subst hA5
    exact ((((((((((Fr.refl _ A).put _ (by omega)).put _ (by omega)).put _ (by omega)).put _ (by omega)).put _ (by omega)).put _ (by omega)).put _ (by omega)).put _ (by omega)).put _ (by omega))
   have h37 : A5.eval (.tmp 37) = .slice (some ⟨blk, 0, none⟩) ks.length cap := by subst hA5; simp (disch := (try simp only [sP]); omega) only [eV]
   have h38 : A5.eval (.tmp 38) = .int .i64 (ks.length : Nat) := by subst hA5; simp (disch := (try simp only [sP]); omega) only [eV]
   have h39 : A5.eval (.tmp 39) = .int .i64 ((0 : Nat) : Int) := by subst hA5; simp (disch := (try simp only [sP]); omega) only [eV]; rfl
   have hs5 := hfr5.size
   clear hA5
   have hd5 : DSt E U db w5 dv xs := ⟨by rw [hb5.cell (p := ⟨db, 0, none⟩) hdb]; exact hd.cell, free_at (hb5.block db hdb) hd.free, own_heapG hd.own (fun g hg => hb5.block g (own_lt hd.own g hg).2), hd.ne, hd.U⟩
   have hUw : U ≤ w.heap.size := by omega
   refine vS (vc_block (vc_loop (fun A W => ∃ (i : Nat) (dvi : Value), i ≤ ks.length ∧ A.tmps.size = 53 ∧ A.defers = [] ∧ A.eval (.tmp 0) = .pointer (some ⟨b, o, none⟩) ∧ A.eval (.tmp 1) = fv ∧ A.eval (.tmp 37) = .slice (some ⟨blk, 0, none⟩) ks.length cap ∧ A.eval (.tmp 38) = .int .i64 (ks.length : Nat) ∧ A.eval (.tmp 39) = .int .i64 (i : Int) ∧
     DSt E U db W dvi (xs ++ ((tags.take i).map wrTag).flatten) ∧ Below U w W ∧ Cells W blk 0 (ks'.map encU) ∧ w5.heap.size ≤ W.heap.size ∧ (∀ g, dvi.ownBlock = some g → dv.ownBlock = some g ∨ w5.heap.size ≤ g))
    (fun A _ => ks.length - (intOf (A.eval (.tmp 39))).toNat) ?_ ?_))
   ·refine ⟨0, dv, Nat.zero_le _, by rw [hs5]; exact hsA, by rw [hfr5.defers]; exact hdA, by rw [hfr5.slot 0 (by omega)]; exact g0, by rw [hfr5.slot 1 (by omega)]; exact g1, h37, h38, h39, by simpa using hd5, hb5.mono hUw, hcel, Nat.le_refl _, fun g hg => .inl hg⟩
   ·rintro A6 W6 ⟨i, dvi, hi, hsA6, hdA6, k0, k1, k37, k38, k39, hdst, hbW6, hcel6, hz6, hrow6⟩
    refine vX ?_
    refine r_lss (k := .i64) (m := (i : Int)) (n := (ks.length : Int)) k39 k38 ?_
    refine dn ?_
    refine vS (vC (t := decide ((i : Int) < (ks.length : Int))) (by simp (disch := (try simp only [sP]); omega) only [eV]) ?_ ?_)
    ·intro hlt
     have hlt' : i < ks.length := by simpa using hlt
     have hit' : i < tags.length := by omega
     refine vK ?_
     have hki : (ks'.map encU)[i]? = some (encU (tags[i]).1) := by
      rw [hks', List.map_map, List.getElem?_map, List.getElem?_eq_getElem hit']
      rfl
     refine vS (vc_block (vX ?_))
     refine r_index (b := blk) (o := 0) (len := ks.length) (cap := cap) (k := .i64) (j := i) (rB HS.row) (by simp (disch := (try simp only [sP]); omega) only [eV, k37]) (by simp (disch := (try simp only [sP]); omega) only [eV, k39]) hlt' ?_
     refine rL (b := blk) (o := 0 + i * 1) (v := encU (tags[i]).1) (by simp (disch := (try simp only [sP]); omega) only [eV]) HS.oU32 (by rw [Nat.mul_one]; exact hcel6 i _ hki) ?_
     refine rA (dn ?_)
     obtain ⟨j, hfj, hlj⟩ := tag_find hperm hok.1 (List.getElem_mem hit')
     obtain ⟨e, hej, hek, hev, hsrc⟩ := hent j _ hlj
     refine vX (rM (rM (rM ?_)))
     refine r_nil (ad := ⟨b, o, none⟩) (by simp (disch := (try simp only [sP]); omega) only [eV, k0]) ?_
     refine rF (b := b) (o := o) (by simp (disch := (try simp only [sP]); omega) only [eV]) HT.f0 ?_
     refine rL (b := b) (o := o + 0) (v := .map (some q)) (by simp (disch := (try simp only [sP]); omega) only [eV]) HT.oMap (by rw [hbW6.cell (p := ⟨b, o + 0, none⟩) hbU]; exact hcv) ?_
     refine rM ?_
     refine r_lookup (q := q) (es := es) (clock := clock) (k := (tags[i]).1) (j := j) (e := e) (l := l) HT.map HT.u32 (by simp (disch := (try simp only [sP]); omega) only [eV]) (by (try simp (disch := (try simp only [sP]); omega) only [eV]) <;> (first | rfl | assumption)) (by rw [hbW6.block q hqU]; exact hq) hll hkeys hfj hej ?_
     have hlenb : (xs ++ ((tags.take i).map wrTag).flatten).length + (wrTag ((tags[i]).1, (tags[i]).2)).length ≤ big := by
      have := flat_take hit'
      rw [List.length_append]
      show _ + (wrTag tags[i]).length ≤ big
      omega
     refine r_callF (f := E.gEach1) (pre := #[]) (post := #[.pointer (some ⟨db, 0, none⟩)]) (args := #[.int .u32 ((tags[i]).1 : Int), e.val, .pointer (some ⟨db, 0, none⟩)]) (by rw [hfv]; exact (by simp (disch := (try simp only [sP]); omega) only [eV, k1])) ?_
      (hg1 (k := (tags[i]).1) (l := (tags[i]).2) hdst (hok.2 _ (List.getElem_mem hit')) hev (fun w' hb' => hsrc w' (hbW6.trans hb')) hlenb) ?_
     ·simp only [lM]
      simp (disch := (try simp only [sP]); omega) only [eV]
      rfl
     rintro _ W7 ⟨dv7, hd7, hkp7⟩
     refine dn (vN ?_)
     have hz7 := hkp7.below.size
     have hcel7 : Cells W7 blk 0 (ks'.map encU) := by
      have hblk6 : blk < W6.heap.size := by omega
      have := hkp7.same blk hblk6 (by omega) (fun e => by
       rcases hrow6 blk e with h1 | h1
       ·have := (own_lt hd.own blk h1).2; omega
       ·omega)
      intro x u hu
      rw [cell_at this]
      exact hcel6 x u hu
     refine vX ?_
     refine r_add (k := .i64) (m := (i : Int)) (n := 1) (by simp (disch := (try simp only [sP]); omega) only [eV, k39]) rfl ?_
     rw [wrap_i64 (by omega) (by omega)]
     refine rM (dn (vN ?_))
     generalize hA7 : Act.put _ (some 39) _ = A7
     have hfr7 : Fr (fun k => k < 7 ∨ k = 37 ∨ k = 38) A6 A7 := by
      subst hA7
      exact (((((((((((((((Fr.refl _ A6).put _ (by omega)).put _ (by omega)).put _ (by omega)).put _ (by omega)).put _ (by omega)).put _ (by omega)).put _ (by omega)).put _ (by omega)).put _ (by omega)).put _ (by omega)).put _ (by omega)).put _ (by omega)).put _ (by omega)).put _ (by omega)).put _ (by omega)
     have h397 : A7.eval (.tmp 39) = .int .i64 ((i + 1 : Nat) : Int) := by subst hA7; simp (disch := (try simp only [sP]); omega) only [eV]; rfl
     clear hA7
     refine ⟨⟨i + 1, dv7, hlt', by rw [hfr7.size]; exact hsA6, by rw [hfr7.defers]; exact hdA6, by rw [hfr7.slot 0 (by omega)]; exact k0, by rw [hfr7.slot 1 (by omega)]; exact k1, by rw [hfr7.slot 37 (by omega)]; exact k37, by rw [hfr7.slot 38 (by omega)]; exact k38, h397, ?_, hbW6.trans hkp7.below, hcel7, by omega, fun g hg => ?_⟩, ?_⟩
     ·have e2 : xs ++ ((tags.take (i + 1)).map wrTag).flatten = xs ++ ((tags.take i).map wrTag).flatten ++ wrTag ((tags[i]).1, (tags[i]).2) := by
       rw [List.take_succ_eq_append_getElem hit', List.map_append, List.flatten_append, List.append_assoc]
       simp
      rw [e2]
      exact hd7
     ·rcases hkp7.row g hg with h1 | h1
      ·exact hrow6 g h1
      ·exact .inr (by omega)
     ·show ks.length - (intOf _).toNat < ks.length - (intOf _).toNat
      rw [h397, k39]
      simp only [intOf, Int.toNat_natCast]
      omega
    ·intro hge
     have hin : i = ks.length := by
      have : ¬ ((i : Int) < (ks.length : Int)) := by simpa using hge
      omega
     refine vc_exit ?_
     simp only [Exit.then, Exit.inBlock, if_true]
     refine vN ?_
     have e3 : tags.take i = tags := by rw [hin, hkn]; exact List.take_length
     rw [e3] at hdst
     exact ⟨by simp only [dF]; exact hdA6, .tuple #[], by simp [results], dvi, hdst, hbW6⟩
  ·intro e he w1' hw1'
   have hheap : w1'.heap = W.heap := by rcases hw1' with rfl | rfl <;> rfl
   have hees : e ∈ es.toList := by
    unfold leftOf at he
    rw [Array.toList_filter] at he
    exact (List.mem_filter.1 he).1
   have hbs : Below w.heap.size w (setBlock w1' rr (.mapIter (some q) clock (seen.push e.born) clock)) := by
    have h1 : Below w.heap.size w w1' := by rcases hw1' with rfl | rfl; exact hbW; exact ⟨hbW.os, hbW.tape, hbW.output, hbW.size, hbW.block⟩
    exact h1.trans (setBlock_below _ (by omega))
   have hrb : (setBlock w1' rr (.mapIter (some q) clock (seen.push e.born) clock)).heap[rr]? = some (.mapIter (some q) clock (seen.push e.born) clock) := by
    simp only [setBlock]
    rw [Array.getElem?_setIfInBounds_self_of_lt (by rw [hheap]; exact hrW)]
   have hkb : ∀ k, k ≠ rr → (setBlock w1' rr (.mapIter (some q) clock (seen.push e.born) clock)).heap[k]? = W.heap[k]? := fun k hk => by rw [setBlock_at _ hk, hheap]
   have hzb : (setBlock w1' rr (.mapIter (some q) clock (seen.push e.born) clock)).heap.size = W.heap.size := by rw [setBlock_size, hheap]
   generalize setBlock w1' rr (.mapIter (some q) clock (seen.push e.born) clock) = W2 at *
   have hobr : ob ≠ rr := by omega
   have hcs2 : W2.cell? ⟨ob, 0, none⟩ = some sv := by rw [cell_at (hkb ob hobr)]; exact hcs
   have hfs2 : Free W2 ob 0 := free_at (hkb ob hobr) hfs
   have hown2' : W2.ownsRow w.heap.size E.tW 1 sv ks.length (ks.map encU) := own_heapG hown (fun g hg => hkb g (fun e => hne2 (by rw [hg, e])))
   have hke := key_enc hll hkeys hees
   refine r_extract (vs := #[.bool true, e.key, e.val]) (v := .bool true) (by simp (disch := (try simp only [sP]); omega) only [eV]) rfl ?_
   refine dn ?_
   refine vS (vC (t := true) (by simp (disch := (try simp only [sP]); omega) only [eV]) ?_ (fun h => by cases h))
   intro _
   refine vK ?_
   refine vS (vc_block (vX ?_))
   refine r_entry (rr := rr) (q := q) (since := clock) (seen := seen) (es := es) (clock := clock) (e := e) (by simp (disch := (try simp only [sP]); omega) only [eV, g24]) hrb (by rw [hbs.block q hqlt]; exact hq) hees hnod ?_
   refine r_extract (vs := #[e.key, e.val]) (v := e.key) (by simp (disch := (try simp only [sP]); omega) only [eV]) rfl ?_
   refine rA (dn (vX ?_))
   refine rL (b := ob) (o := 0) (v := sv) (by simp (disch := (try simp only [sP]); omega) only [eV, g4]) HS.oU32s hcs2 ?_
   refine rM ?_
   refine r_buildSlice (s := 1) (vs := [encU (keyOf e)]) HS.row ?_ rfl (by intro v hv; simp only [List.mem_cons, List.not_mem_nil, or_false] at hv; subst hv; rfl) (by omega) (by omega) ?_
   ·simp only [lM]
    simp (disch := (try simp only [sP]); omega) only [eV]
    rw [hke]
    rfl
   have hcsl : [encU (keyOf e)].flatMap (fun v => v.cells.toList) = [encU (keyOf e)] := rfl
   rw [hcsl]
   have hkslen : ks.length ≤ tags.length := by
    have h1 := hpm.length_eq
    rw [List.length_append, List.length_map, List.length_map, hperm.length_eq] at h1
    omega
   have hkslt : ks.length < tags.length := by
    have h1 := hpm.length_eq
    rw [List.length_append, List.length_map, List.length_map, hperm.length_eq] at h1
    have h2 : 0 < (leftOf es seen).toList.length := List.length_pos_of_mem he
    omega
   refine r_appendK (U := w.heap.size) (v := sv) (n := ks.length) (xs := ks.map encU) (u := .slice (some ⟨W2.heap.size, 0, none⟩) 1 1) (m := 1) (news := [encU (keyOf e)]) HS.row (by simp (disch := (try simp only [sP]); omega) only [eV]) (by simp (disch := (try simp only [sP]); omega) only [eV]) (hown2'.alloc _) (by simp; have := hbs.size; omega) ?_ (by omega) ?_
   ·refine src_cells (rB HS.row) ?_ rfl (by intro u hu; simp only [List.mem_cons, List.not_mem_nil, or_false] at hu; subst hu; rfl)
    intro j u hu
    rw [Nat.zero_add]
    exact cells_new W2 _ _ (by simpa using hu)
   intro sv' W3 hown3 hb3' hkp3
   have hz3 := hb3'.size
   have hza : (W2.alloc (.cells [encU (keyOf e)].toArray E.tW)).heap.size = W2.heap.size + 1 := by simp
   have hk3 : ∀ k, k < W2.heap.size → sv.ownBlock ≠ some k → W3.heap[k]? = W2.heap[k]? := fun k hk hn => by
    rw [hkp3.1 k (by omega) hn]
    exact Below.heap_alloc W2 _ k hk
   have hob2 : ob < W2.heap.size := lt_of_cell hcs2
   have hf3 : Free W3 ob 0 := free_at (hk3 ob hob2 hne1) hfs2
   have hsv' : sv'.ownBlock ≠ some ob ∧ sv'.ownBlock ≠ some rr := by
    constructor
    ·intro e9
     rcases hkp3.2 ob e9 with h1 | h1
     ·exact hne1 h1
     ·omega
    ·intro e9
     rcases hkp3.2 rr e9 with h1 | h1
     ·exact hne2 h1
     ·omega
   refine r_store (b := ob) (o := 0) (v := sv') (by simp (disch := (try simp only [sP]); omega) only [eV, g4]) (by simp (disch := (try simp only [sP]); omega) only [eV]) (own_one hown3).1 HS.oU32s hf3 ?_
   refine dn (vN (vN ?_))
   generalize hA3 : Act.put _ (some 32) _ = A3
   have hfr3 : Fr (fun k => k < 5 ∨ k = 24) A A3 := by
    subst hA3
    exact ((((((((Fr.refl _ A).put _ (by omega)).put _ (by omega)).put _ (by omega)).put _ (by omega)).put _ (by omega)).put _ (by omega)).put _ (by omega)).put _ (by omega) |>.put _ (by omega)
   clear hA3
   have hrr3 : (W3.setCell ⟨ob, 0, none⟩ sv').heap[rr]? = some (.mapIter (some q) clock (seen.push e.born) clock) := by
    rw [Below.heap_setCell _ _ _ _ (by show rr ≠ ob; omega), hk3 rr (by omega) hne2]
    exact hrb
   have hbW3 : Below w.heap.size w (W3.setCell ⟨ob, 0, none⟩ sv') := by
    have h1 : Below w.heap.size w W3 := (hbs.alloc (o := .cells _ _) hbs.size).trans hb3'
    exact h1.setCell (p := ⟨ob, 0, none⟩) (by show w.heap.size ≤ ob; omega) _
   have hpm3 : ((ks ++ [keyOf e]) ++ (leftOf es (seen.push e.born)).toList.map keyOf).Perm (l.map (·.1)) := by
    refine List.Perm.trans ?_ hpm
    rw [List.append_assoc]
    refine List.Perm.append_left ks ?_
    have := ((left_step hnod he).map keyOf).symm
    simpa using this
   refine ⟨⟨seen.push e.born, ks ++ [keyOf e], sv', by rw [hfr3.size]; exact hsA, by rw [hfr3.defers]; exact hdA, by rw [hfr3.slot 0 (by omega)]; exact g0, by rw [hfr3.slot 1 (by omega)]; exact g1, by rw [hfr3.slot 4 (by omega)]; exact g4, by rw [hfr3.slot 24 (by omega)]; exact g24, hbW3, by simp; omega, hrr3, cell_setCell_same _ hf3.1, hf3.eff ((Eff.refl (fun k _ => k = ob) _).setCell _ _ _ (fun _ => rfl)), ?_, hsv'.1, hsv'.2, hpm3⟩, ?_⟩
   ·have : W3.ownsRow w.heap.size E.tW 1 sv' (ks ++ [keyOf e]).length ((ks ++ [keyOf e]).map encU) := by simpa using hown3
    exact own_heapG this (fun g hg => Below.heap_setCell _ _ _ _ (fun e9 => hsv'.1 (by rw [hg, e9])))
   ·simp only [hrr3, hit]
    have h1 := (left_step hnod he).length_eq
    simp only [Array.length_toList, List.length_cons] at h1
    omega
end
end Go.Km
namespace Go.Km
open Go Go.RowKit Go.ChangeMaps
attribute [local irreducible] vc rO_ runG runS runD
theorem TagsRep.tagIn {P : Program} {E : Env} {W0 w : World} {sb : Sb} {v : Value} {tags : List (Nat × List UInt8)} (HB : sliceT P E.tB = some (E.tU8, 1)) (h : TagsRep W0 sb 0 v tags) (hw : Below W0.heap.size W0 w) : TagIn P E w W0.heap.size v tags := by
 obtain ⟨h1, _, h2⟩ := h
 refine ⟨h1, ?_⟩
 rcases h2 with h2 | ⟨q, es, clock, hv, _, hq, hm, hb, hn, l, hp, hl, hx⟩
 ·exact .inl h2
 ·refine .inr ⟨q, es, clock, l, hv, hq, by rw [hw.block q hq]; exact hm, hb, hn, hp, hl, fun i x hi => ?_⟩
  obtain ⟨e, e1, e2, e3⟩ := hx i x hi
  refine ⟨e, e1, e2, ?_, ?_⟩
  ·rcases e3 with ⟨e3, e4⟩ | ⟨c, o, cap, e3, _⟩
   ·exact ⟨none, 0, by rw [e3, e4]; rfl⟩
   ·exact ⟨_, cap, e3⟩
  ·intro w' hw'
   rcases e3 with ⟨e3, e4⟩ | ⟨c, o, cap, e3, _, hc, hcs⟩
   ·rw [e3, e4]; exact src_nil HB
   ·rw [e3]
    refine src_cells HB ?_ (by simp) (bv_one _)
    intro j u hu
    rw [cell_at ((hw.trans hw').block c hc)]
    exact hcs j u hu
section
variable {P : Program} {E : Env}
theorem k_teach (HT : TagT P E) (HS : SortE P E) (ht : Text P E.tEach 2 9 #[.tmp 4] (c_tEach E)) (hta : Text P E.gAll 2 53 #[] (c_gAll E)) (ht1 : Text P E.gEach1 2 16 #[] (c_gEach1 E)) (huv : ∀ (n : Nat) U w, n < 4294967296 → Wr1K P E E.wUvarint U [.int .u32 n] (Go.Km.uvar n) w)
  (row : rowB P E.tB E.tU8 1 = true) (hob : oneT P E.tB = true) (ii : intT P E.tI = some .i64)
  {W0 w : World} {sb : Sb} {b o : Nat} {v : Value} {tags : List (Nat × List UInt8)} (hc : W0.cell? ⟨b, o, none⟩ = some v) (hr : TagsRep W0 sb 0 v tags) (hw : Below W0.heap.size W0 w)
  {dv : Value} {xs : List UInt8} (hown : w.ownsRow W0.heap.size E.tU8 1 dv xs.length (xs.map bv)) (hbg : xs.length + (tags.map wrTag).flatten.length ≤ big) :
  CallsV P E.tEach #[.pointer (some ⟨b, o, none⟩), dv] w fun v' w' => w'.ownsRow W0.heap.size E.tU8 1 v' (xs ++ (tags.map wrTag).flatten).length ((xs ++ (tags.map wrTag).flatten).map bv) ∧ Below W0.heap.size w w' := by
 refine CallsV.enter ht (by simp) ?_
 intro a hsz hdf harg
 have e0 := harg 0 (.pointer (some ⟨b, o, none⟩)) (by simp)
 have e1 := harg 1 dv (by simp)
 have hdc : dv.cells = #[dv] := (own_one hown).2
 have hz := hw.size
 have hbl : Below W0.heap.size w (w.alloc (.cells dv.cells E.tB)) := (Below.refl _ w).alloc (o := .cells _ _) hw.size
 have hw1 : Below W0.heap.size W0 (w.alloc (.cells dv.cells E.tB)) := hw.trans hbl
 have hcw : (w.alloc (.cells dv.cells E.tB)).cell? ⟨b, o, none⟩ = some v := by rw [hw1.cell (p := ⟨b, o, none⟩) (lt_of_cell hc)]; exact hc
 have hn := tags_short tags
 have hd : DSt E W0.heap.size w.heap.size (w.alloc (.cells dv.cells E.tB)) dv xs := by
  refine ⟨cells_new w _ _ (by rw [hdc]; rfl), free_new w _ _ (by rw [hdc]; simp), hown.alloc _, fun e => ?_, hz⟩
  have := (own_lt hown _ e).2
  omega
 unfold c_tEach
 refine vX ?_
 refine r_box (v := dv) (by simp (disch := (try simp only [sP]); omega) only [eV, e1]) ?_
 refine rA (dn (vX (rM ?_)))
 refine r_makeFunc ?_
 refine r_call' (args := #[.pointer (some ⟨b, o, none⟩), .func (.func E.gEach1) #[] #[.pointer (some ⟨w.heap.size, 0, none⟩)]]) ?_
  (k_gAll HT HS hta ii (fun hd hk hv hs hb => k_gEach1 ht1 huv row hob HS.iu ii hd hk hv hs hb) hcw (lt_of_cell hc) (hr.tagIn (rB row) hw1) hd (by omega) hbg) ?_
 ·simp only [lM]
  simp (disch := (try simp only [sP]); omega) only [eV, e0]
 rintro v' w' ⟨dv', hd', hb'⟩
 refine dn (vX ?_)
 refine rL (b := w.heap.size) (o := 0) (v := dv') (by simp (disch := (try simp only [sP]); omega) only [eV]) hob hd'.cell ?_
 refine rA (dn (vS (vT ?_)))
 exact ⟨by simp only [dF]; exact hdf, dv', rO (by simp (disch := (try simp only [sP]); omega) only [eV]), hd'.own, hbl.trans hb'⟩
structure TTexts (P : Program) (E : Env) : Prop where
 tagT : TagT P E
 sortE : SortE P E
 gEach1 : Text P E.gEach1 2 16 #[] (c_gEach1 E)
 uv : E.wUvarint ≠ 0
theorem envWT (HT : KTexts P E) (hB : kB P E = true) (HG : TTexts P E) : EnvW P E (fun _ => True) := by
 have H0 := envW0 HT hB
 have hB' := hB
 simp only [kB, Bool.and_eq_true, beq_iff_eq, bne_iff_ne, ne_eq] at hB'
 obtain ⟨⟨⟨⟨⟨⟨⟨⟨⟨⟨⟨⟨⟨⟨⟨⟨⟨⟨⟨⟨⟨⟨⟨⟨⟨⟨⟨⟨⟨row, u8⟩, ii⟩, ob⟩, s8⟩, oU16⟩, oU32⟩, oU64⟩, oI8⟩, oI16⟩, oI32⟩, oI64⟩, oUv⟩, oStr⟩, oCStr⟩, oNStr⟩, oCNStr⟩, oB⟩, oCB⟩, oNB⟩, oCNB⟩, oL⟩, oCL⟩, oNL⟩, oCNL⟩, oUu⟩, oTl⟩, oTe⟩, oUv2⟩, oF⟩ := hB'
 have cUv : ∀ (n : Nat) U w, n < 4294967296 → Wr1K P E E.wUvarint U [.int .u32 n] (Go.Km.uvar n) w := fun n U w hn => by
  have h2 := on_inv oUv HG.uv
  simp only [Bool.and_eq_true, beq_iff_eq, bne_iff_ne, ne_eq] at h2
  exact k_uvarK (HT.wUvarint HG.uv) (HT.uvLen h2.1.2) (HT.len32 h2.2) row u8 h2.1.1.1 ii (strB_inv h2.1.1.2) hn
 refine { bytes := H0.bytes, scal := H0.scal, uuid := H0.uuid, str := H0.str, cstr := H0.cstr, nstr := H0.nstr, cnstr := H0.cnstr, octs := H0.octs, cocts := H0.cocts, nocts := H0.nocts, cnocts := H0.cnocts, len := H0.len, clen := H0.clen, nlen := H0.nlen, cnlen := H0.cnlen, uvar := H0.uvar, tlen := ?_, teach := ?_ }
 ·intro h W0 sb b o v tags w _ hc hr hw
  have h2 := on_inv oTl h
  simp only [Bool.and_eq_true, beq_iff_eq] at h2
  exact k_tlen (HT.tLen h) h2.1.1 h2.2 h2.1.2 hc hr hw
 ·intro h W0 sb b o v tags w hT hc hr hw dv xs hown hb
  have h2 := on_inv oTe h
  simp only [Bool.and_eq_true, beq_iff_eq, bne_iff_ne, ne_eq] at h2
  exact k_teach HG.tagT HG.sortE (HT.tEach h) (HT.gAll h2.2) HG.gEach1 cUv row ob ii hc hr hw hown hb
end
end Go.Km
