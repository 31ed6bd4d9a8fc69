/- spec.unknown. spec.part and spec.field of all shapes without known tags. spec.Default: trees in memory that are wholly new. spec.Default. spec.Default of all shapes. The spec's messages: literals of fields. The spec's messages: the functions that give them. The laws 'what the spec writes is read, and written back', 'what ends early is an error': over any program. The laws 'what the spec writes is read, and written back', second part: the law's body. A tree that came in, as the spec's functions take it. How long what the spec writes is; rows of laws over trees. A message's list of fields is what its functions give. The laws 'what ends early is an error': the law's body. What is kept within: read and written again; the spec's form of it. The laws over what is kept within: the spec's form; the laws' bodies. The laws over what is kept within: what ends early. The laws 'what is read of any octets ..': the body, the row. A kept message of two numbers: at every version, below 0 too. A kept message of two numbers: read and written again; the law 'what is read of any octets ..'. The row of a law over octets alone. -/
import Derived.Test.YtlfhagnjemjaoaaDoorKb03
import Derived.Test.YtlfhagnjemjaoaaDoorKb04
import Derived.Test.YtlfhagnjemjaoaaDoorKc00
set_option linter.unusedSimpArgs false
set_option linter.unusedVariables false
namespace Go.Km
open Go Go.RowKit
attribute [local irreducible] vc rO_ runG runS runD
theorem UnkB.items {w : World} {U : Nat} {v : Value} {u : List (Nat × List UInt8)} (h : UnkB w U v u) : ∃ ad cap, v = .slice ad u.length cap ∧ u.length ≤ cap ∧
  ∀ (i : Nat) (x : Nat × List UInt8), u[i]? = some x → ∃ q o s, ad = some ⟨q, o, none⟩ ∧ q < U ∧ x.1 < 4294967296 ∧ Cells w q (o + i * 2) [.int .u32 (x.1 : Int), s] ∧ OctsB w U s x.2 := by
 rcases h with ⟨⟨ad, cap, rfl⟩, rfl⟩ | ⟨q, o, cap, rfl, hc, hq, h⟩
 ·exact ⟨ad, cap, rfl, Nat.zero_le _, fun i x hx => by simp at hx⟩
 ·refine ⟨_, cap, rfl, hc, fun i x hx => ?_⟩
  obtain ⟨s, h1, h2, h3⟩ := h i x hx
  exact ⟨q, o, s, rfl, hq, h1, h2, h3⟩
theorem UnkB.of_own {w w' : World} {U B : Nat} {e : TypeId} {v : Value} {es : List UE} (h : w'.ownsRow B e 2 v es.length (fl es)) (hok : ∀ x ∈ es, x.1.1 < 4294967296 ∧ OctsB w U x.2 x.1.2) (hU : U ≤ w.heap.size) (hw : Below U w w') : UnkB w' w'.heap.size v (es.map (·.1)) := by
 have hUw : U ≤ w'.heap.size := Nat.le_trans hU hw.size
 rcases own_form2 h with ⟨rfl, h0⟩ | ⟨g, cap, rfl, hc, _, hg⟩
 ·refine .inl ⟨nilS, ?_⟩
  rw [List.eq_nil_of_length_eq_zero h0]
  rfl
 ·refine .inr ⟨g, 0, cap, by rw [List.length_map], by rw [List.length_map]; exact hc, hg, fun i x hx => ?_⟩
  rw [List.getElem?_map] at hx
  cases hi : es[i]? with
  | none => rw [hi] at hx; cases hx
  | some e =>
   rw [hi, Option.map_some, Option.some.injEq] at hx
   subst hx
   obtain ⟨h1, h2⟩ := hok e (List.mem_of_getElem? hi)
   exact ⟨e.2, h1, by rw [Nat.zero_add]; exact own_cells2 h hi, (h2.below hw).mono hUw⟩
section
variable {P : Program} {E : Env} {w : World} {U : Nat}
set_option maxHeartbeats 2000000 in
theorem s_unknown (H : SEnv P E) (HL : SLay P E) (HT : STexts P E) : UnkC P E := by
 intro U w sv uv fs u hU hsf htg hfl hu
 refine CallsV.enter HT.unknown (by simp) ?_
 intro a hsz hdf harg
 have e0 := harg 0 sv (by simp)
 have e1 := harg 1 uv (by simp)
 have hsl := rB H.rUnks
 obtain ⟨z, hz, hzc⟩ := rowB_zero H.rUnks
 obtain ⟨ad, cap, huv, hcap, hit⟩ := hu.items
 unfold c_sUnknown
 refine vX (rA (dn (vX (rM ?_))))
 refine r_call' (args := #[sv]) ?_ (s_known (U := w.heap.size) H HL HT (hsf.mono hU) (Nat.le_refl _) htg hfl) ?_
 ·simp only [lM]
  simp (disch := (try simp only [sP]); omega) only [eV, e0]
 rintro v W1 ⟨rfl, hb1⟩
 generalize hle : known fs.tags = le at *
 refine rA (dn (vX (rA (dn ?_))))
 have hU1 : U ≤ W1.heap.size := Nat.le_trans hU hb1.size
 have hbU1 : Below U w W1 := hb1.mono hU
 have hmin : (if (32767 : Int) < (u.length : Int) then 32767 else (u.length : Int)) = ((u.take 32767).length : Int) := by
  rw [List.length_take]; split <;> omega
 have hun : unk le u = (u.take 32767).foldl (fun l x => if x.1 < le then l else insU x l) [] := rfl
 have htl : (u.take 32767).length ≤ u.length := by rw [List.length_take]; omega
 have htm : (u.take 32767).length ≤ 32767 := by rw [List.length_take]; omega
 have hit' : ∀ (i : Nat) (x : Nat × List UInt8), (u.take 32767)[i]? = some x → ∃ q o s, ad = some ⟨q, o, none⟩ ∧ q < U ∧ x.1 < 4294967296 ∧ Cells w q (o + i * 2) [.int .u32 (x.1 : Int), s] ∧ OctsB w U s x.2 := by
  intro i x hx
  rw [List.getElem?_take] at hx
  split at hx
  ·exact hit i x hx
  ·cases hx
 refine vS (vX (rM (rM ?_)))
 refine r_len (ad := ad) (n := u.length) (c := cap) hsl (by simp (disch := (try simp only [sP]); omega) only [eV, e1, huv]) ?_
 refine r_min (k := .i64) (m := (u.length : Int)) (n := 32767) (by simp (disch := (try simp only [sP]); omega) only [eV]) rfl ?_
 rw [hmin]
 rw [hun]
 generalize u.take 32767 = u' at *
 refine r_sliceTo (k := .i64) (ad := ad) (len := u.length) (cap := cap) (h := u'.length) hsl (by simp (disch := (try simp only [sP]); omega) only [eV, e1, huv]) (by simp (disch := (try simp only [sP]); omega) only [eV]) (by omega) ?_
 refine r_len (ad := ad) (n := u'.length) (c := cap) hsl (by simp (disch := (try simp only [sP]); omega) only [eV]) ?_
 refine rM (dn ?_)
 refine vS (vc_block (vc_count (fun m A V => m ≤ u'.length ∧ A.tmps.size = 85 ∧ A.defers = [] ∧ A.eval (.tmp 5) = .int .u32 (le : Int) ∧ A.eval (.tmp 17) = .slice ad u'.length cap ∧ A.eval (.tmp 18) = .int .i64 (u'.length : Int) ∧ A.eval (.tmp 19) = .int .i64 ((u'.length - m : Nat) : Int) ∧ Below W1.heap.size W1 V ∧
  ∃ (es : List UE) (v6 : Value), A.eval (.tmp 6) = v6 ∧ V.ownsRow W1.heap.size E.tUnk 2 v6 es.length (fl es) ∧ (∀ e ∈ es, e.1.1 < 4294967296 ∧ OctsB w U e.2 e.1.2) ∧ es.length ≤ u'.length - m ∧ es.map (·.1) = (u'.take (u'.length - m)).foldl (fun l x => if x.1 < le then l else insU x l) []) u'.length ?_ ?_ ?_))
 ·refine ⟨Nat.le_refl _, by simp only [zP]; exact hsz, by simp only [dF]; exact hdf, (by simp (disch := (try simp only [sP]); omega) only [eV]), (by simp (disch := (try simp only [sP]); omega) only [eV]), (by simp (disch := (try simp only [sP]); omega) only [eV]), ?_, Below.refl _ _, [], .slice none 0 0, (by simp (disch := (try simp only [sP]); omega) only [eV]), World.ownsRow_nil _ _ _ _, by simp, Nat.zero_le _, by simp⟩
  simp (disch := (try simp only [sP]); omega) only [eV]
  simp
 ·rintro m A V ⟨hm, hs, hd, g5, g17, g18, g19, hbV, es, v6, g6, hown, hok, hesl, hmap⟩
  have hi : u'.length - (m + 1) < u'.length := by omega
  have him : u'.length - m = (u'.length - (m + 1)) + 1 := by omega
  rw [him]
  generalize hii : u'.length - (m + 1) = i at *
  obtain ⟨q, o, s, rfl, hq, hkey, hcs, hoc⟩ := hit' i u'[i] (List.getElem?_eq_getElem hi)
  have hfold : (u'.take (i + 1)).foldl (fun l x => if x.1 < le then l else insU x l) [] = if u'[i].1 < le then es.map (·.1) else insU u'[i] (es.map (·.1)) := by
   rw [List.take_succ_eq_append_getElem hi, List.foldl_append, ← hmap]
   rfl
  rw [hfold]
  generalize hx : u'[i] = x at *
  obtain ⟨tk, oc⟩ := x
  simp only at hkey hcs hoc hfold ⊢
  have hbwV : Below U w V := hbU1.trans (hbV.mono hU1)
  have hcsV := hcs.below hbwV hq
  have hUV : U ≤ V.heap.size := Nat.le_trans hU1 hbV.size
  refine vX ?_
  refine r_lss (k := .i64) (m := (i : Int)) (n := (u'.length : Int)) g19 g18 ?_
  refine dn ?_
  refine vS (vC (t := true) ?_ ?_ (fun h => by cases h))
  ·simp (disch := (try simp only [sP]); omega) only [eV]
   simp only [Value.bool.injEq, decide_eq_true_eq]
   omega
  intro _
  refine vK ?_
  refine vS (vc_block (vX ?_))
  refine r_index (k := .i64) (j := i) (b := q) (o := o) (len := u'.length) (cap := cap) hsl (by simp (disch := (try simp only [sP]); omega) only [eV, g17]) (by simp (disch := (try simp only [sP]); omega) only [eV, g19]) hi ?_
  refine r_loadAgg (b := q) (o := o + i * 2) (cs := [.int .u32 (tk : Int), s]) (by simp (disch := (try simp only [sP]); omega) only [eV]) H.aUnk hcsV ?_
  refine r_alloc hz ?_
  have hs1 : s.oneCell' = true := hoc.one
  refine r_storeAgg (b := V.heap.size) (o := 0) (cs := [.int .u32 (tk : Int), s]) (by simp (disch := (try simp only [sP]); omega) only [eV]) (by simp (disch := (try simp only [sP]); omega) only [eV]) (by intro v hv; simp only [List.mem_cons, List.not_mem_nil, or_false] at hv; rcases hv with rfl | rfl; rfl; exact hs1) H.aUnk ?_ ?_
  ·intro j hj
   rw [Nat.zero_add]
   exact free_new V _ _ (by rw [hzc]; simpa using hj)
  refine dn ?_
  have hcell : Cells (setCells (V.alloc (.cells z.cells E.tUnk)) V.heap.size 0 [.int .u32 (tk : Int), s]) V.heap.size 0 [.int .u32 (tk : Int), s] := fun j v hv => by
   refine setCells_cell V.heap.size [.int .u32 (tk : Int), s] _ 0 (fun j hj => ?_) j v hv
   rw [Nat.zero_add]
   exact (free_new V z.cells E.tUnk (by rw [hzc]; simpa using hj)).1
  have hb3 : Below V.heap.size V (setCells (V.alloc (.cells z.cells E.tUnk)) V.heap.size 0 [.int .u32 (tk : Int), s]) := by
   refine ((Below.refl V.heap.size V).alloc (o := .cells _ _) (Nat.le_refl _)).trans ((setCells_eff V.heap.size [.int .u32 (tk : Int), s] _ 0).below (by simp) (by rintro k i hk ⟨rfl, _, _⟩; omega))
  have hz3 : V.heap.size < (setCells (V.alloc (.cells z.cells E.tUnk)) V.heap.size 0 [.int .u32 (tk : Int), s]).heap.size := by
   have := (setCells_eff V.heap.size [.int .u32 (tk : Int), s] (V.alloc (.cells z.cells E.tUnk)) 0).size
   simp at this
   omega
  generalize setCells (V.alloc (.cells z.cells E.tUnk)) V.heap.size 0 [.int .u32 (tk : Int), s] = V1 at hcell hb3 hz3 ⊢
  have hown1 := own_below hown hb3
  have hWV : W1.heap.size ≤ V.heap.size := hbV.size
  have hbV1 : Below W1.heap.size W1 V1 := hbV.trans (hb3.mono hWV)
  have hbbl : ∀ g, v6.ownBlock = some g → g ≠ V.heap.size := fun g hg => by have := own_block_lt hown hg; omega
  generalize hbb : V.heap.size = bb at *
  refine vX (rA (dn ?_))
  generalize hG : (((((A.put (some 20) _).put (some 21) _).put (some 22) _).put (some 8) _).put (some 9) _) = G
  have hsG : G.tmps.size = 85 := by rw [← hG]; simp only [zP]; exact hs
  have hdG : G.defers = [] := by rw [← hG]; simp only [dF]; exact hd
  have k5 : G.eval (.tmp 5) = .int .u32 (le : Int) := by rw [← hG]; simp (disch := (try simp only [sP]); omega) only [eV, g5]
  have k6 : G.eval (.tmp 6) = v6 := by rw [← hG]; simp (disch := (try simp only [sP]); omega) only [eV, g6]
  have k8 : G.eval (.tmp 8) = .pointer (some ⟨bb, 0, none⟩) := by rw [← hG]; simp (disch := (try simp only [sP]); omega) only [eV]
  have k9 : G.eval (.tmp 9) = .int .i64 0 := by rw [← hG]; simp (disch := (try simp only [sP]); omega) only [eV]
  have k17 : G.eval (.tmp 17) = .slice (some ⟨q, o, none⟩) u'.length cap := by rw [← hG]; simp (disch := (try simp only [sP]); omega) only [eV, g17]
  have k18 : G.eval (.tmp 18) = .int .i64 (u'.length : Int) := by rw [← hG]; simp (disch := (try simp only [sP]); omega) only [eV, g18]
  have k19 : G.eval (.tmp 19) = .int .i64 (i : Int) := by rw [← hG]; simp (disch := (try simp only [sP]); omega) only [eV, g19]
  clear hG
  obtain ⟨ad6, cap6, hv6, hg6⟩ : ∃ ad6 cap6, v6 = .slice ad6 es.length cap6 ∧ ∀ j, j < es.length → ∃ g, ad6 = some ⟨g, 0, none⟩ ∧ Cells V1 g (0 + j * 2) [.int .u32 ((es[j]?.map (·.1.1)).getD 0 : Nat), (es[j]?.map (·.2)).getD (.slice none 0 0)] := by
   rcases own_form2 hown1 with ⟨h1, h0⟩ | ⟨g, cap6, h1, _⟩
   ·exact ⟨none, 0, by rw [h0]; exact h1, fun j hj => by omega⟩
   ·subst h1
    refine ⟨_, cap6, rfl, fun j hj => ⟨g, rfl, ?_⟩⟩
    have := own_cells2 (i := j) hown1 (List.getElem?_eq_getElem hj)
    rw [List.getElem?_eq_getElem hj, Nat.zero_add]
    exact this
  have hpl := pos_le tk (es.map (·.1))
  rw [List.length_map] at hpl
  have hplt := pos_lt tk (es.map (·.1))
  have hpat := pos_at tk (es.map (·.1))
  have hins := insU_pos (tk, oc) (es.map (·.1))
  simp only at hins
  generalize hp : pos tk (es.map (·.1)) = p at *
  have fin : ∀ (B' : Act) (V' : World) (es' : List UE) (v6' : Value), B'.tmps.size = 85 → B'.defers = [] → B'.eval (.tmp 5) = .int .u32 (le : Int) → B'.eval (.tmp 17) = .slice (some ⟨q, o, none⟩) u'.length cap → B'.eval (.tmp 18) = .int .i64 (u'.length : Int) → B'.eval (.tmp 19) = .int .i64 (i : Int) → Below W1.heap.size W1 V' →
    B'.eval (.tmp 6) = v6' → V'.ownsRow W1.heap.size E.tUnk 2 v6' es'.length (fl es') → (∀ e ∈ es', e.1.1 < 4294967296 ∧ OctsB w U e.2 e.1.2) → es'.length ≤ i + 1 → es'.map (·.1) = (if tk < le then es.map (·.1) else insU (tk, oc) (es.map (·.1))) → ∀ Q : Exit → Act → World → Prop,
    (∀ A', (m ≤ u'.length ∧ A'.tmps.size = 85 ∧ A'.defers = [] ∧ A'.eval (.tmp 5) = .int .u32 (le : Int) ∧ A'.eval (.tmp 17) = .slice (some ⟨q, o, none⟩) u'.length cap ∧ A'.eval (.tmp 18) = .int .i64 (u'.length : Int) ∧ A'.eval (.tmp 19) = .int .i64 ((i + 1 : Nat) : Int) ∧ Below W1.heap.size W1 V' ∧
     ∃ (es' : List UE) (v6' : Value), A'.eval (.tmp 6) = v6' ∧ V'.ownsRow W1.heap.size E.tUnk 2 v6' es'.length (fl es') ∧ (∀ e ∈ es', e.1.1 < 4294967296 ∧ OctsB w U e.2 e.1.2) ∧ es'.length ≤ i + 1 ∧ es'.map (·.1) = (if tk < le then es.map (·.1) else insU (tk, oc) (es.map (·.1)))) → Q .normal A' V') →
    vc P (sq [(rg [(oQ 83 (.binOp .add E.tI (.tmp 19) (.const (.int .i64 1)) E.tI) E.tI), (oQ 19 (.move (.tmp 83)) E.tI)])]) Q B' V' := by
   intro B' V' es' v6' b0 b1 b2 b3 b4 b5 b6 b7 b8 b9 b10 b11 Q hQ
   refine vX ?_
   refine r_add (k := .i64) (m := (i : Int)) (n := 1) (by simp (disch := (try simp only [sP]); omega) only [eV, b5]) rfl ?_
   refine rM (dn (vN ?_))
   refine hQ _ ⟨by omega, by simp only [zP]; exact b0, by simp only [dF]; exact b1, (by simp (disch := (try simp only [sP]); omega) only [eV, b2]), (by simp (disch := (try simp only [sP]); omega) only [eV, b3]), (by simp (disch := (try simp only [sP]); omega) only [eV, b4]), ?_, b6, es', v6', (by simp (disch := (try simp only [sP]); omega) only [eV, b7]), b8, b9, b10, b11⟩
   simp (disch := (try simp only [sP]); omega) only [eV]
   rw [wrap_i64 (by omega) (by omega)]
   rfl
  refine vS (vc_block (vc_count (fun m' A' V' => m' ≤ p ∧ A'.tmps.size = 85 ∧ A'.defers = [] ∧ (∀ k : Nat, k < 23 → k ≠ 9 → A'.eval (.tmp k) = G.eval (.tmp k)) ∧ A'.eval (.tmp 9) = .int .i64 ((p - m' : Nat) : Int) ∧ ∃ d, V' = { V1 with drawn := d }) p ?_ ?_ ?_))
  ·refine ⟨Nat.le_refl _, hsG, hdG, fun _ _ _ => rfl, ?_, V1.drawn, rfl⟩
   rw [k9]
   simp
  ·rintro m' A' V' ⟨hm', hs', hd', hk', g9, d, rfl⟩
   have hjp : p - (m' + 1) < p := by omega
   have hjm : p - m' = (p - (m' + 1)) + 1 := by omega
   rw [hjm]
   generalize hjj : p - (m' + 1) = j at *
   have hjl : j < es.length := by omega
   obtain ⟨g, rfl, hcj⟩ := hg6 j hjl
   rw [List.getElem?_eq_getElem hjl] at hcj
   have hlt := hplt j (by simpa using hjl) hjp
   simp only [List.getElem_map] at hlt
   refine vS (vS (s_unkT1 (j := j) (n := es.length) (cap := cap6) (tk := tk) (bb := bb) (ad := some ⟨g, 0, none⟩) (res := true) H HT hs' g9 (by rw [hk' 6 (by omega) (by omega), k6, hv6]) (by rw [hk' 8 (by omega) (by omega), k8]) (hcell 0 _ rfl) (fun _ => ⟨g, es[j].1.1, rfl, hcj 0 _ rfl, ?_⟩) (fun h => absurd hjl h) (fun _ _ _ _ h => False.elim h) ?_))
   ·simp
    omega
   intro B' b0 b1 b2 b3
   refine vS (vC (t := true) b3 ?_ (fun h => by cases h))
   intro _
   refine vK (vN ?_)
   refine vS (vc_block (vR (by simp) ?_))
   refine rM ?_
   refine r_add (k := .i64) (m := (j : Int)) (n := 1) ?_ rfl ?_
   ·simp (disch := (try simp only [sP]); omega) only [eV]
    rw [b2 9 (by omega), g9]
   refine rA (dn (vN ?_))
   refine ⟨by omega, by simp only [zP]; exact b0, by simp only [dF]; rw [b1]; exact hd', fun k h1 h2 => ?_, ?_, d + 1, rfl⟩
   ·simp (disch := (try simp only [sP]); omega) only [eV]
    rw [b2 k h1, hk' k h1 h2]
   ·simp (disch := (try simp only [sP]); omega) only [eV]
    rw [wrap_i64 (by omega) (by omega)]
    rfl
  ·rintro A' V' ⟨hm', hs', hd', hk', g9, d, rfl⟩
   rw [Nat.sub_zero] at g9
   refine vS (vS (s_unkT1 (j := p) (n := es.length) (cap := cap6) (tk := tk) (bb := bb) (ad := ad6) (res := false) H HT hs' g9 (by rw [hk' 6 (by omega) (by omega), k6, hv6]) (by rw [hk' 8 (by omega) (by omega), k8]) (hcell 0 _ rfl) (fun hpl' => ?_) (fun _ => rfl) (fun _ _ _ _ h => False.elim h) ?_))
   ·obtain ⟨g, rfl, hcj⟩ := hg6 p hpl'
    rw [List.getElem?_eq_getElem hpl'] at hcj
    have hnl := hpat (by simpa using hpl')
    simp only [List.getElem_map] at hnl
    refine ⟨g, es[p].1.1, rfl, hcj 0 _ rfl, ?_⟩
    simp
    omega
   intro B' b0 b1 b2 b3
   refine vS (vC (t := false) b3 (fun h => by cases h) ?_)
   intro _
   refine vc_exit ?_
   simp only [Exit.then, Exit.inBlock, if_true]
   have hB9 : B'.eval (.tmp 9) = .int .i64 (p : Int) := by rw [b2 9 (by omega), g9]
   have hBk : ∀ k : Nat, k < 23 → k ≠ 9 → B'.eval (.tmp k) = G.eval (.tmp k) := fun k h1 h2 => by rw [b2 k h1, hk' k h1 h2]
   have hB6 : B'.eval (.tmp 6) = .slice ad6 es.length cap6 := by rw [hBk 6 (by omega) (by omega), k6, hv6]
   have hB8 : B'.eval (.tmp 8) = .pointer (some ⟨bb, 0, none⟩) := by rw [hBk 8 (by omega) (by omega), k8]
   have hB5 : B'.eval (.tmp 5) = .int .u32 (le : Int) := by rw [hBk 5 (by omega) (by omega), k5]
   generalize hdup : (decide (tk < le) || decide (((es.map (·.1))[p]?).map (·.1) = some tk)) = dup
   refine vS (vS (s_unkT2 (j := p) (n := es.length) (cap := cap6) (tk := tk) (bb := bb) (le := le) (ad := ad6) (res := dup) H HT b0 hB5 hB9 hB6 hB8 (hcell 0 _ rfl) ?_ ?_ ?_ (fun _ _ _ _ h => False.elim h) ?_))
   ·intro h
    rw [← hdup]
    simp [h]
   ·intro h hpl'
    obtain ⟨g, rfl, hcj⟩ := hg6 p hpl'
    rw [List.getElem?_eq_getElem hpl'] at hcj
    refine ⟨g, es[p].1.1, rfl, hcj 0 _ rfl, ?_⟩
    rw [← hdup]
    have h2 : ¬ tk < le := h
    simp only [h2, decide_false, Bool.false_or, List.getElem?_map, List.getElem?_eq_getElem hpl', Option.map_some, Option.some.injEq]
    exact decide_eq_decide.2 ⟨fun h => by omega, fun h => by omega⟩
   ·intro h hpl'
    rw [← hdup]
    have h2 : ¬ tk < le := h
    simp only [h2, decide_false, Bool.false_or, List.getElem?_map, List.getElem?_eq_none (Nat.le_of_not_lt hpl'), Option.map_none, decide_eq_false_iff_not]
    intro h
    cases h
   intro C c0 c1 c2 c3
   have hCk : ∀ k : Nat, k < 23 → k ≠ 9 → C.eval (.tmp k) = G.eval (.tmp k) := fun k h1 h2 => by rw [c2 k h1, hBk k h1 h2]
   have hCd : C.defers = [] := by rw [c1, b1]; exact hd'
   refine vS (vC (t := dup) c3 ?_ ?_)
   ·intro ht
    refine vc_exit ?_
    simp only [Exit.then, Exit.inBlock, if_true]
    refine fin C { V1 with drawn := d + 1 + 1 } es v6 c0 hCd (by rw [hCk 5 (by omega) (by omega), k5]) (by rw [hCk 17 (by omega) (by omega), k17]) (by rw [hCk 18 (by omega) (by omega), k18]) (by rw [hCk 19 (by omega) (by omega), k19]) ⟨hbV1.os, hbV1.tape, hbV1.output, hbV1.size, hbV1.block⟩ (by rw [hCk 6 (by omega) (by omega), k6]) hown1 hok (by omega) ?_ _ (fun A' h => h)
    rw [ht] at hdup
    simp only [Bool.or_eq_true, decide_eq_true_eq] at hdup
    rcases hdup with h | h
    ·rw [if_pos h]
    ·rw [hins, if_pos h, ite_self]
   ·intro ht
    refine vK (vN ?_)
    rw [ht] at hdup
    simp only [Bool.or_eq_false_iff, decide_eq_false_iff_not] at hdup
    refine s_unkIns (B := W1.heap.size) (bb := bb) (j := p) (v6 := v6) (es := es) (t := ((tk, oc), s)) (V := { V1 with drawn := d + 1 + 1 }) H HL c0 (by rw [hCk 6 (by omega) (by omega), k6]) (by rw [hCk 8 (by omega) (by omega), k8]) (by rw [c2 9 (by omega), hB9]) hpl (by omega) (Nat.le_trans hWV (Nat.le_of_lt hz3)) hown1 (fun e he => (hok e he).2.one) hs1 hz3 hbbl hcell ?_
    intro A2 V2 v2 d0 d1 d2 d3 d4 d5
    have hlen2 : (es.take p ++ ((tk, oc), s) :: es.drop p).length = es.length + 1 := by
     simp only [List.length_append, List.length_cons, List.length_take, List.length_drop]
     omega
    rw [← hlen2] at d5
    have hbV2 : Below W1.heap.size V1 V2 := ⟨d4.os, d4.tape, d4.output, d4.size, d4.block⟩
    refine fin A2 V2 _ v2 d0 (by rw [d1]; exact hCd) (by rw [d2 5 (by omega) (by omega) (by omega), hCk 5 (by omega) (by omega), k5]) (by rw [d2 17 (by omega) (by omega) (by omega), hCk 17 (by omega) (by omega), k17]) (by rw [d2 18 (by omega) (by omega) (by omega), hCk 18 (by omega) (by omega), k18]) (by rw [d2 19 (by omega) (by omega) (by omega), hCk 19 (by omega) (by omega), k19]) (hbV1.trans hbV2) d3 d5 ?_ (by rw [hlen2]; omega) ?_ _ (fun A' h => h)
    ·intro e he
     rcases List.mem_append.1 he with h | h
     ·exact hok e (List.mem_of_mem_take h)
     ·rcases List.mem_cons.1 h with rfl | h
      ·exact ⟨hkey, hoc⟩
      ·exact hok e (List.mem_of_mem_drop h)
    ·rw [if_neg hdup.1, hins, if_neg hdup.2]
     simp only [List.map_append, List.map_cons, List.map_take, List.map_drop]
 ·rintro A V ⟨hm, hs, hd, g5, g17, g18, g19, hbV, es, v6, g6, hown, hok, hesl, hmap⟩
  rw [Nat.sub_zero] at g19 hmap
  rw [List.take_length] at hmap
  refine vX ?_
  refine r_lss (k := .i64) (m := (u'.length : Int)) (n := (u'.length : Int)) g19 g18 ?_
  refine dn ?_
  refine vS (vC (t := false) ?_ (fun h => by cases h) ?_)
  ·simp (disch := (try simp only [sP]); omega) only [eV]
   simp only [Value.bool.injEq, decide_eq_false_iff_not]
   omega
  intro _
  refine vc_exit ?_
  simp only [Exit.then, Exit.inBlock, if_true]
  refine vN (vX (rM (rA (dn (vS (vT ?_))))))
  have hfin : Below U w V := hbU1.trans (hbV.mono hU1)
  refine ⟨by simp only [dF]; exact hd, v6, rO (by simp (disch := (try simp only [sP]); omega) only [eV, g6]), ?_, hfin⟩
  rw [← hmap]
  exact UnkB.of_own hown hok hU hfin
end
end Go.Km
namespace Go.Km
open Go Go.RowKit
mutual
def SF.good : SF → Bool
 | .mk kind fr to nul tag df el sub => (SF.mk kind fr to nul tag df el sub).kindOk && decide (tag < 0) && decide (sub.len ≤ 65536) && sub.good
def SFs.good : SFs → Bool
 | .nil => true
 | .cons f r => f.good && r.good
end
theorem SFs.good_tags : ∀ fs : SFs, fs.good = true → ∀ t ∈ fs.tags, t < 0
 | .nil, _, t, h => by simp [SFs.tags] at h
 | .cons (.mk kind fr to nul tag df el sub) r, hg, t, h => by
  simp only [SFs.good, SF.good, Bool.and_eq_true, decide_eq_true_eq] at hg
  simp only [SFs.tags, List.mem_cons] at h
  rcases h with rfl | h
  ·exact hg.1.1.1.2
  ·exact SFs.good_tags r hg.2 t h
section
variable {P : Program} {E : Env}
mutual
theorem fieldsC (H : SEnv P E) (HL : SLay P E) (HT : STexts P E) (hz8 : zeroT P E.tU8 = some (.int .u8 0)) (ver : Int) (fx : Bool) : ∀ (fs : SFs), fs.good = true → ∀ i f, fs.get i = some f → FieldC P E ver fx f
 | .nil, _, i, f, h => by cases h
 | .cons g r, hg, 0, f, h => by
  simp only [SFs.good, Bool.and_eq_true] at hg
  simp only [SFs.get, Option.some.injEq] at h
  subst h
  exact fieldC H HL HT hz8 ver fx g hg.1
 | .cons g r, hg, i + 1, f, h => by
  simp only [SFs.good, Bool.and_eq_true] at hg
  exact fieldsC H HL HT hz8 ver fx r hg.2 i f h
theorem fieldC (H : SEnv P E) (HL : SLay P E) (HT : STexts P E) (hz8 : zeroT P E.tU8 = some (.int .u8 0)) (ver : Int) (fx : Bool) : ∀ (f : SF), f.good = true → FieldC P E ver fx f
 | .mk kind fr to nul tag df el sub, hg => by
  simp only [SF.good, Bool.and_eq_true, decide_eq_true_eq] at hg
  exact s_field H HT hz8 hg.1.1.1 (s_part H HL HT (s_unknown H HL HT) (SFs.good_tags sub hg.2) (by show sub.len ≤ big; unfold big; omega) (fieldsC H HL HT hz8 ver fx sub hg.2))
end
theorem partC (H : SEnv P E) (HL : SLay P E) (HT : STexts P E) (hz8 : zeroT P E.tU8 = some (.int .u8 0)) {ver : Int} {fx : Bool} {fs : SFs} (hg : fs.good = true) (hl : fs.len ≤ 65536) : PartC P E ver fx fs :=
 s_part H HL HT (s_unknown H HL HT) (SFs.good_tags fs hg) (by unfold big; omega) (fieldsC H HL HT hz8 ver fx fs hg)
end
end Go.Km
namespace Go.Km
open Go Go.RowKit
attribute [local irreducible] vc rO_ runG runS runD
section
variable {P : Program} {a : Act} {w : World} {r : List Oper} {Q : Exit → Act → World → Prop}
end
mutual
def Tr.RepD (w : World) (S : Nat → Prop) : Tr → List Value → Prop
 | .mk n s nl l u, cs => s = [] ∧ u = [] ∧ ∃ lv, cs = [.int .i64 n, .slice none 0 0, .bool nl, lv, .slice none 0 0] ∧
   ((lv = .slice none 0 0 ∧ l.len = 0) ∨ ∃ q cap, lv = .slice (some ⟨q, 0, none⟩) l.len cap ∧ l.len ≤ cap ∧ S q ∧ l.RepD w S q 0)
def Trs.RepD (w : World) (S : Nat → Prop) (q : Nat) : Trs → Nat → Prop
 | .nil, _ => True
 | .cons t r, o => (∃ c, Cells w q o c ∧ t.RepD w S c) ∧ r.RepD w S q (o + 5)
end
theorem Cells.same {w w' : World} {q o : Nat} {cs : List Value} (h : Cells w q o cs) (he : w'.heap[q]? = w.heap[q]?) : Cells w' q o cs := by
 intro i v hv
 have := h i v hv
 simp only [World.cell?] at this ⊢
 rw [he]
 exact this
mutual
theorem Tr.RepD.keep {w w' : World} {S S' : Nat → Prop} (hk : ∀ q, S q → w'.heap[q]? = w.heap[q]?) (hS : ∀ q, S q → S' q) : ∀ {t : Tr} {cs : List Value}, t.RepD w S cs → t.RepD w' S' cs
 | .mk n s nl l u, cs, ⟨h1, h2, lv, h3, h4⟩ => by
  refine ⟨h1, h2, lv, h3, ?_⟩
  rcases h4 with h4 | ⟨q, cap, h5, h6, h7, h8⟩
  ·exact .inl h4
  ·exact .inr ⟨q, cap, h5, h6, hS q h7, Trs.RepD.keep hk hS h7 h8⟩
theorem Trs.RepD.keep {w w' : World} {S S' : Nat → Prop} (hk : ∀ q, S q → w'.heap[q]? = w.heap[q]?) (hS : ∀ q, S q → S' q) {q : Nat} (hq : S q) : ∀ {l : Trs} {o : Nat}, l.RepD w S q o → l.RepD w' S' q o
 | .nil, _, _ => trivial
 | .cons t r, o, ⟨⟨c, h1, h2⟩, h3⟩ => ⟨⟨c, h1.same (hk q hq), Tr.RepD.keep hk hS h2⟩, Trs.RepD.keep hk hS hq h3⟩
end
mutual
theorem Tr.RepD.rep {w : World} {S : Nat → Prop} {U : Nat} (hS : ∀ q, S q → q < U) : ∀ {t : Tr} {cs : List Value}, t.RepD w S cs → t.Rep w U cs
 | .mk n s nl l u, cs, ⟨h1, h2, lv, h3, h4⟩ => by
  refine ⟨.slice none 0 0, lv, .slice none 0 0, h3, .inl ⟨nilS, h1⟩, .inl ⟨nilS, h2⟩, ?_⟩
  rcases h4 with ⟨rfl, h4⟩ | ⟨q, cap, h5, h6, h7, h8⟩
  ·exact .inl ⟨nilS, h4⟩
  ·exact .inr ⟨q, 0, cap, h5, h6, hS q h7, Trs.RepD.rep hS h8⟩
theorem Trs.RepD.rep {w : World} {S : Nat → Prop} {U q : Nat} (hS : ∀ q, S q → q < U) : ∀ {l : Trs} {o : Nat}, l.RepD w S q o → l.Rep w U q o
 | .nil, _, _ => trivial
 | .cons t r, o, ⟨⟨c, h1, h2⟩, h3⟩ => ⟨⟨c, h1, Tr.RepD.rep hS h2⟩, Trs.RepD.rep hS h3⟩
end
theorem Tr.RepD.len {w : World} {S : Nat → Prop} {t : Tr} {cs : List Value} (h : t.RepD w S cs) : cs.length = 5 := by
 cases t with
 | mk n s nl l u => obtain ⟨_, _, _, rfl, _⟩ := h; rfl
theorem Tr.RepD.one {w : World} {S : Nat → Prop} {t : Tr} {cs : List Value} (h : t.RepD w S cs) : ∀ v ∈ cs, v.oneCell' = true := by
 cases t with
 | mk n s nl l u =>
  obtain ⟨_, _, lv, rfl, h3⟩ := h
  have e3 : lv.oneCell' = true := by rcases h3 with ⟨rfl, _⟩ | ⟨q, cap, rfl, _⟩ <;> rfl
  intro v hv
  simp only [List.mem_cons, List.not_mem_nil, or_false] at hv
  rcases hv with rfl | rfl | rfl | rfl | rfl <;> first | rfl | assumption
theorem Free.below {w w' : World} {B b o : Nat} (h : Free w b o) (hb : Below B w w') (hB : b < B) : Free w' b o :=
 ⟨by rw [hb.cell (p := ⟨b, o, none⟩) hB]; exact h.1, by rw [hb.frozen (p := ⟨b, o, none⟩) hB]; exact h.2⟩
end Go.Km
namespace Go.Km
open Go Go.RowKit
attribute [local irreducible] vc rO_ runG runS runD
def SF.kind : SF → Int
 | .mk kind _ _ _ _ _ _ _ => kind
def SF.df : SF → Int
 | .mk _ _ _ _ _ df _ _ => df
def SF.nul : SF → Int
 | .mk _ _ _ nul _ _ _ _ => nul
section
variable {P : Program} {E : Env} {w : World} {U : Nat}
end
end Go.Km
namespace Go.Km
open Go Go.RowKit
section
variable {P : Program} {E : Env}
end
end Go.Km
namespace Go.Km
open Go Go.RowKit
attribute [local irreducible] vc rO_ runG runS runD
abbrev FE := SF × Option FuncId
def SF.parts : SF → Option Operand → List (Nat × Operand)
 | .mk kind fr to nul tag df el _, x => [(0, .const (.int .i64 kind))] ++ (if fr = 0 then [] else [(1, .const (.int .i64 fr))]) ++ [(2, .const (.int .i64 to)), (3, .const (.int .i64 nul)), (4, .const (.int .i64 tag))] ++
   (if df = 0 then [] else [(5, .const (.int .i64 df))]) ++ (if el = 0 then [] else [(6, .const (.int .i64 el))]) ++ (match x with | none => [] | some x => [(7, x)])
def feOps (E : Env) : List FE → Nat → List Oper
 | [], _ => []
 | (f, none) :: r, t => oBuild t E.tFld (f.parts none).toArray :: feOps E r (t + 1)
 | (f, some g) :: r, t => oCall (some t) g #[] #[] E.tFlds :: oBuild (t + 1) E.tFld (f.parts (some (.tmp t))).toArray :: feOps E r (t + 2)
def feSlots : List FE → Nat → List Nat
 | [], _ => []
 | (_, none) :: r, t => t :: feSlots r (t + 1)
 | (_, some _) :: r, t => (t + 1) :: feSlots r (t + 2)
def feT : List FE → Nat → Nat
 | [], t => t
 | (_, none) :: r, t => feT r (t + 1)
 | (_, some _) :: r, t => feT r (t + 2)
def oSliceOf (E : Env) (d : Nat) (ss : List Nat) : Oper := oBuildSlice d E.tFlds ss.length (ss.zipIdx.map fun x => (x.2, Operand.tmp x.1)).toArray
def c_spec (E : Env) (l : List FE) (flex : Int) : Code :=
 let T := feT l 1
 sq [rg [oAlloc 0 E.tMsg], rg (feOps E l 1 ++ [oSliceOf E T (feSlots l 1), oBuild (T + 1) E.tMsg #[(1, .const (.int .i64 flex)), (0, .tmp T)], oStore E.tMsg (.tmp 0) (.tmp (T + 1))]), .ret]
def toSFs : List FE → SFs
 | [] => .nil
 | f :: r => .cons f.1 (toSFs r)
theorem toSFs_len : ∀ l, (toSFs l).len = l.length
 | [] => rfl
 | f :: r => by simp [toSFs, SFs.len, toSFs_len r]
def LitC (P : Program) (g : FuncId) (fs : SFs) : Prop := ∀ w, CallsV P g #[] w fun v w' => SlF w' w'.heap.size v fs ∧ Below w.heap.size w w'
def SubsC (P : Program) (l : List FE) : Prop := ∀ f ∈ l, match f.2 with | none => f.1.sub = .nil | some g => LitC P g f.1.sub
def FVals (A : Act) (W : World) : List Nat → List FE → Prop
 | [], [] => True
 | s :: ss, f :: fs => (∃ cells : List Value, A.eval (.tmp s) = .agg cells.toArray ∧ f.1.Rep W W.heap.size cells) ∧ FVals A W ss fs
 | _, _ => False
theorem fill_fld (kind fr to nul tag df el : Int) (sub : SFs) (ρ : Operand → Value) (hρ : ∀ v, ρ (.const v) = v) (x : Option Operand) (sv : Value) (hx : match x with | none => sv = .slice none 0 0 | some x => ρ x = sv) (h1 : sv.cells = #[sv]) :
  Instr.fill (([(0, 1), (1, 1), (2, 1), (3, 1), (4, 1), (5, 1), (6, 1), (7, 1)] : List (Nat × Nat)).toArray[·]?) #[.int .i64 0, .int .i64 0, .int .i64 0, .int .i64 0, .int .i64 0, .int .i64 0, .int .i64 0, .slice none 0 0]
   ((((SF.mk kind fr to nul tag df el sub).parts x).toArray.map fun (y : Nat × Operand) => (y.1, ρ y.2))).toList = some #[.int .i64 kind, .int .i64 fr, .int .i64 to, .int .i64 nul, .int .i64 tag, .int .i64 df, .int .i64 el, sv] := by
 have hc : ∀ n : Int, (Value.int .i64 n).cells = #[.int .i64 n] := fun _ => rfl
 cases x with
 | none =>
  simp only at hx
  subst hx
  by_cases h1 : fr = 0 <;> by_cases h2 : df = 0 <;> by_cases h3 : el = 0 <;> simp [SF.parts, h1, h2, h3, Instr.fill, hρ, hc]
 | some x =>
  simp only at hx
  by_cases h4 : fr = 0 <;> by_cases h2 : df = 0 <;> by_cases h3 : el = 0 <;> simp [SF.parts, h4, h2, h3, Instr.fill, hρ, hc, hx, h1]
theorem FVals.keep {A A' : Act} {W W' : World} (hW : Below W.heap.size W W') : ∀ {ss : List Nat} {l : List FE}, (∀ s ∈ ss, A'.eval (.tmp s) = A.eval (.tmp s)) → FVals A W ss l → FVals A' W' ss l
 | [], [], _, _ => trivial
 | s :: ss, f :: l, hs, ⟨⟨c, h1, h2⟩, h3⟩ => ⟨⟨c, by rw [hs s (by simp)]; exact h1, (h2.below hW).mono hW.size⟩, FVals.keep hW (fun s h => hs s (by simp [h])) h3⟩
 | [], _ :: _, _, h => h.elim
 | _ :: _, [], _, h => h.elim
theorem feT_ge (l : List FE) (t : Nat) : t ≤ feT l t := by
 induction l generalizing t with
 | nil => exact Nat.le_refl _
 | cons x r ih => rcases x with ⟨f, _ | g⟩ <;> simp only [feT] <;> first | (have := ih (t + 1); omega) | (have := ih (t + 2); omega)
section
variable {P : Program} {E : Env}
theorem fe_run (HL : SLay P E) : ∀ (l : List FE) {t : Nat} {rest : List Oper} {Q : Exit → Act → World → Prop} {A : Act} {W : World}, SubsC P l → feT l t ≤ A.tmps.size →
  (∀ A' W', A'.tmps.size = A.tmps.size → A'.defers = A.defers → (∀ k : Nat, k < t → A'.eval (.tmp k) = A.eval (.tmp k)) → Below W.heap.size W W' → FVals A' W' (feSlots l t) l → rO_ P Q rest A' W') → rO_ P Q (feOps E l t ++ rest) A W
 | [], t, rest, Q, A, W, _, _, h => h A W rfl rfl (fun _ _ => rfl) (Below.refl _ _) trivial
 | (.mk kind fr to nul tag df el sub, none) :: r, t, rest, Q, A, W, hS, ht, h => by
  have hs := hS _ (List.mem_cons_self ..)
  simp only [SF.sub] at hs
  have hTr := feT_ge r (t + 1)
  simp only [feT] at ht
  refine r_build (cells := #[.int .i64 kind, .int .i64 fr, .int .i64 to, .int .i64 nul, .int .i64 tag, .int .i64 df, .int .i64 el, .slice none 0 0]) HL.fld (fill_fld kind fr to nul tag df el sub A.eval (fun _ => rfl) none _ rfl rfl) ?_
  refine fe_run HL r (fun f hf => hS f (List.mem_cons_of_mem _ hf)) (by simp only [zP]; exact ht) ?_
  intro A' W' a1 a2 a3 a4 a5
  refine h A' W' (by rw [a1]; simp only [zP]) (by rw [a2]; simp only [dF]) (fun k hk => ?_) a4 ⟨⟨[.int .i64 kind, .int .i64 fr, .int .i64 to, .int .i64 nul, .int .i64 tag, .int .i64 df, .int .i64 el, .slice none 0 0], ?_, ?_⟩, a5⟩
  ·rw [a3 k (by omega)]
   simp (disch := (try simp only [sP]); omega) only [eV]
  ·rw [a3 t (by omega)]
   simp (disch := (try simp only [sP]); omega) only [eV]
  ·refine ⟨_, rfl, .inl ⟨rfl, ?_⟩⟩
   rw [hs]
   rfl
 | (.mk kind fr to nul tag df el sub, some g) :: r, t, rest, Q, A, W, hS, ht, h => by
  have hs := hS _ (List.mem_cons_self ..)
  simp only [SF.sub] at hs
  have hTr := feT_ge r (t + 2)
  simp only [feT] at ht
  refine r_call' (args := #[]) (by simp) (hs W) ?_
  rintro v W1 ⟨hsl, hb1⟩
  have hv1 : v.cells = #[v] := by rcases hsl with ⟨rfl, _⟩ | ⟨q, o, cap, rfl, _⟩ <;> rfl
  refine r_build (cells := #[.int .i64 kind, .int .i64 fr, .int .i64 to, .int .i64 nul, .int .i64 tag, .int .i64 df, .int .i64 el, v]) HL.fld (fill_fld kind fr to nul tag df el sub (A.put (some t) v).eval (fun _ => rfl) (some (.tmp t)) v (by simp (disch := (try simp only [sP]); omega) only [eV]) hv1) ?_
  refine fe_run HL r (fun f hf => hS f (List.mem_cons_of_mem _ hf)) (by simp only [zP]; exact ht) ?_
  intro A' W' a1 a2 a3 a4 a5
  refine h A' W' (by rw [a1]; simp only [zP]) (by rw [a2]; simp only [dF]) (fun k hk => ?_) (hb1.trans (a4.mono hb1.size)) ⟨⟨[.int .i64 kind, .int .i64 fr, .int .i64 to, .int .i64 nul, .int .i64 tag, .int .i64 df, .int .i64 el, v], ?_, ?_⟩, a5⟩
  ·rw [a3 k (by omega)]
   simp (disch := (try simp only [sP]); omega) only [eV]
  ·rw [a3 (t + 1) (by omega)]
   simp (disch := (try simp only [sP]); omega) only [eV]
  ·refine ⟨v, rfl, ?_⟩
   exact (hsl.below a4).mono a4.size
end
end Go.Km
namespace Go.Km
open Go Go.RowKit
attribute [local irreducible] vc rO_ runG runS runD
def Reps (W : World) (U : Nat) : List (List Value) → List FE → Prop
 | [], [] => True
 | c :: cs, f :: l => f.1.Rep W U c ∧ Reps W U cs l
 | _, _ => False
theorem Reps.len {W : World} {U : Nat} : ∀ {cs : List (List Value)} {l : List FE}, Reps W U cs l → cs.length = l.length ∧ ∀ c ∈ cs, c.length = 8
 | [], [], _ => ⟨rfl, by simp⟩
 | c :: cs, f :: l, ⟨h1, h2⟩ => by
  obtain ⟨h3, h4⟩ := Reps.len h2
  refine ⟨by simp [h3], fun x hx => ?_⟩
  rcases List.mem_cons.1 hx with rfl | hx
  ·exact h1.len
  ·exact h4 x hx
 | [], _ :: _, h => h.elim
 | _ :: _, [], h => h.elim
theorem Reps.below {W W' : World} {U U' : Nat} (hW : Below U W W') (hU : U ≤ U') : ∀ {cs : List (List Value)} {l : List FE}, Reps W U cs l → Reps W' U' cs l
 | [], [], _ => trivial
 | c :: cs, f :: l, ⟨h1, h2⟩ => ⟨(h1.below hW).mono hU, Reps.below hW hU h2⟩
 | [], _ :: _, h => h.elim
 | _ :: _, [], h => h.elim
theorem FVals.cells {A : Act} {W : World} : ∀ {ss : List Nat} {l : List FE}, FVals A W ss l → ∃ cs : List (List Value), (ss.map fun s => A.eval (.tmp s)) = cs.map (fun c => Value.agg c.toArray) ∧ Reps W W.heap.size cs l
 | [], [], _ => ⟨[], rfl, trivial⟩
 | s :: ss, f :: l, ⟨⟨c, h1, h2⟩, h3⟩ => by
  obtain ⟨cs, h4, h5⟩ := FVals.cells h3
  exact ⟨c :: cs, by simp only [List.map_cons, h1, h4], h2, h5⟩
 | [], _ :: _, h => h.elim
 | _ :: _, [], h => h.elim
theorem sfs_rep {w : World} {U q : Nat} : ∀ {cs : List (List Value)} {l : List FE} {o : Nat}, Reps w U cs l → Cells w q o cs.flatten → (toSFs l).Rep w U q o
 | [], [], o, _, _ => trivial
 | c :: cs, f :: l, o, ⟨h1, h2⟩, hc => by
  have h8 := h1.len
  simp only [List.flatten_cons] at hc
  refine ⟨⟨c, ?_, h1⟩, sfs_rep h2 ?_⟩
  ·have := hc.tk (n := c.length)
   rwa [List.take_left] at this
  ·have := hc.dp (n := c.length)
   rwa [List.drop_left, h8] at this
 | [], _ :: _, _, h, _ => h.elim
 | _ :: _, [], _, h, _ => h.elim
mutual
theorem SF.Rep.other {w w' : World} {U b : Nat} (hk : ∀ k, k ≠ b → w'.heap[k]? = w.heap[k]?) (hb : ∀ i, 7 ≤ i → w.cell? ⟨b, i, none⟩ = none) : ∀ {f : SF} {cs : List Value}, f.Rep w U cs → f.Rep w' U cs
 | .mk kind fr to nul tag df el sub, cs, ⟨sv, h1, h2⟩ => by
  refine ⟨sv, h1, ?_⟩
  rcases h2 with h2 | ⟨q, o, cap, h3, h4, h5, h6⟩
  ·exact .inl h2
  ·exact .inr ⟨q, o, cap, h3, h4, h5, SFs.Rep.other hk hb h6⟩
theorem SFs.Rep.other {w w' : World} {U b q : Nat} (hk : ∀ k, k ≠ b → w'.heap[k]? = w.heap[k]?) (hb : ∀ i, 7 ≤ i → w.cell? ⟨b, i, none⟩ = none) : ∀ {l : SFs} {o : Nat}, l.Rep w U q o → l.Rep w' U q o
 | .nil, _, _ => trivial
 | .cons f r, o, ⟨⟨c, h1, h2⟩, h3⟩ => by
  have h8 := h2.len
  have hq : q ≠ b := by
   rintro rfl
   have := h1.get (i := 7) (by omega)
   rw [hb (o + 7) (by omega)] at this
   cases this
  exact ⟨⟨c, h1.same (hk q hq), SF.Rep.other hk hb h2⟩, SFs.Rep.other hk hb h3⟩
end
section
variable {P : Program} {E : Env}
theorem r_sliceOf (hB : rowB P E.tFlds E.tFld 8 = true) {d : Nat} {ss : List Nat} {l : List FE} {r : List Oper} {Q : Exit → Act → World → Prop} {A : Act} {W : World} (hv : FVals A W ss l) (hn0 : 0 < l.length) (hn : l.length ≤ 65536)
  (h : ∀ W', Below W.heap.size W W' → SlF W' W'.heap.size (.slice (some ⟨W.heap.size, 0, none⟩) l.length l.length) (toSFs l) → rO_ P Q r (A.put (some d) (.slice (some ⟨W.heap.size, 0, none⟩) l.length l.length)) W') :
  rO_ P Q (oSliceOf E d ss :: r) A W := by
 obtain ⟨cs, h1, h2⟩ := hv.cells
 obtain ⟨h3, h4⟩ := h2.len
 have hsl : ss.length = l.length := by
  have := congrArg List.length h1
  simp only [List.length_map] at this
  omega
 unfold oSliceOf
 rw [hsl]
 refine r_buildSlice (vs := cs.map (fun c => Value.agg c.toArray)) (s := 8) hB ?_ (by rw [List.length_map]; exact h3) ?_ (by omega) hn0 ?_
 ·rw [← h1]
  simp [List.zipIdx_map, List.map_map, Function.comp_def]
 ·intro v hv
  obtain ⟨c, hc, rfl⟩ := List.mem_map.1 hv
  simpa [Value.cells] using h4 c hc
 have hfl : ((cs.map (fun c => Value.agg c.toArray)).flatMap fun v => v.cells.toList) = cs.flatten := by
  rw [List.flatMap_map]
  simp [Value.cells, List.flatMap]
 rw [hfl]
 have hb : Below W.heap.size W (W.alloc (.cells cs.flatten.toArray E.tFld)) := (Below.refl W.heap.size W).alloc (o := .cells _ _) (Nat.le_refl _)
 refine h _ hb (.inr ⟨W.heap.size, 0, l.length, by rw [toSFs_len], by rw [toSFs_len]; exact Nat.le_refl _, by simp, ?_⟩)
 refine sfs_rep (h2.below hb (by simp)) ?_
 intro i v hv
 rw [Nat.zero_add]
 exact cells_new W _ E.tFld (by simpa using hv)
def SpecC (P : Program) (f : FuncId) (fs : SFs) (flex : Int) : Prop := ∀ w, CallsV P f #[] w fun v w' => ∃ sv, v = .agg #[sv, .int .i64 flex] ∧ SlF w' w'.heap.size sv fs ∧ Below w.heap.size w w'
theorem c_spec_ok (HL : SLay P E) (hB : rowB P E.tFlds E.tFld 8 = true) (hM : aggT P E.tMsg = some 2) {f : FuncId} {np nt : Nat} {l : List FE} {flex : Int} (ht : Text P f np nt #[.cell 0 E.tMsg] (c_spec E l flex)) (hnt : feT l 1 + 2 ≤ nt) (hn0 : 0 < l.length) (hn : l.length ≤ 65536) (hS : SubsC P l) : SpecC P f (toSFs l) flex := by
 intro w
 refine CallsV.enter ht (by simp) ?_
 intro a hsz hdf harg
 have hT := feT_ge l 1
 obtain ⟨z, hz, hzc⟩ := lays_zero HL.msg
 unfold c_spec
 refine vX ?_
 refine r_alloc hz ?_
 refine dn ?_
 rw [hzc]
 have hb0 : Below w.heap.size w (w.alloc (.cells #[.slice none 0 0, .int .i64 0] E.tMsg)) := (Below.refl w.heap.size w).alloc (o := .cells _ _) (Nat.le_refl _)
 have hfr : ∀ i, i < 2 → Free (w.alloc (.cells #[.slice none 0 0, .int .i64 0] E.tMsg)) w.heap.size i := fun i hi => free_new w _ E.tMsg (by simpa using hi)
 have hz0 : w.heap.size < (w.alloc (.cells #[.slice none 0 0, .int .i64 0] E.tMsg)).heap.size := by simp
 have h2c : ∀ i, 7 ≤ i → (w.alloc (.cells #[.slice none 0 0, .int .i64 0] E.tMsg)).cell? ⟨w.heap.size, i, none⟩ = none := fun i hi => by
  rw [World.cell?_alloc_new]
  exact Array.getElem?_eq_none (by simp; omega)
 generalize w.alloc (.cells #[.slice none 0 0, .int .i64 0] E.tMsg) = W at *
 generalize hwb : w.heap.size = wb at *
 refine vS (vR ?_ ?_)
 ·intro o ho
  rcases List.mem_append.1 ho with h | h
  ·have : ∀ (l : List FE) (t : Nat), ∀ o ∈ feOps E l t, o.guard = none := by
    intro l
    induction l with
    | nil => intro t o h; simp [feOps] at h
    | cons x r ih =>
     intro t o h
     rcases x with ⟨f, _ | g⟩
     ·simp only [feOps, List.mem_cons] at h
      rcases h with rfl | h
      ·rfl
      ·exact ih _ o h
     ·simp only [feOps, List.mem_cons] at h
      rcases h with rfl | rfl | h
      ·rfl
      ·rfl
      ·exact ih _ o h
   exact this l 1 o h
  ·simp only [List.mem_cons, List.not_mem_nil, or_false] at h
   rcases h with rfl | rfl | rfl <;> rfl
 refine fe_run HL l hS (by simp only [zP]; omega) ?_
 intro A' W' a1 a2 a3 a4 a5
 simp only [zP, dF] at a1 a2
 refine r_sliceOf hB a5 hn0 hn ?_
 intro W2 hb2 hs2
 have h0 : A'.eval (.tmp 0) = .pointer (some ⟨wb, 0, none⟩) := by
  rw [a3 0 (by omega)]
  simp (disch := (try simp only [sP]); omega) only [eV]
 generalize hsv : Value.slice (some ⟨W'.heap.size, 0, none⟩) l.length l.length = sv at *
 have hsv1 : sv.cells = #[sv] := by rw [← hsv]; rfl
 have hsvo : sv.oneCell' = true := by rw [← hsv]; rfl
 refine r_build (cells := #[sv, .int .i64 flex]) HL.msg ?_ ?_
 ·have e1 : (A'.put (some (feT l 1)) sv).eval (.tmp (feT l 1)) = sv := by simp (disch := (try simp only [sP]); omega) only [eV]
  have hc : ∀ n : Int, (Value.int .i64 n).cells = #[.int .i64 n] := fun _ => rfl
  simp [Instr.fill, e1, hsv1, eval_const, hc]
 have hbW2 : Below W.heap.size W W2 := a4.trans (hb2.mono a4.size)
 refine r_storeAgg (b := wb) (o := 0) (cs := [sv, .int .i64 flex]) (by simp (disch := (try simp only [sP]); omega) only [eV, h0]) (by simp (disch := (try simp only [sP]); omega) only [eV]) (by intro v hv; simp only [List.mem_cons, List.not_mem_nil, or_false] at hv; rcases hv with rfl | rfl; exact hsvo; rfl) hM ?_ ?_
 ·intro j hj
  rw [Nat.zero_add]
  exact (hfr j hj).below hbW2 hz0
 refine dn (vS (vT ?_))
 have hE := setCells_eff wb [sv, .int .i64 flex] W2 0
 have hzz := hE.size
 refine ⟨by simp only [dF]; rw [a2]; exact hdf, .agg #[sv, .int .i64 flex], results_cell (b := wb) (o := 0) (cs := [sv, .int .i64 flex]) (by simp (disch := (try simp only [sP]); omega) only [eV, h0]) hM ?_, sv, rfl, ?_, ?_⟩
 ·intro j v hv
  refine setCells_cell wb _ W2 0 (fun j hj => ?_) j v hv
  rw [Nat.zero_add]
  exact ((hfr j hj).below hbW2 hz0).1
 ·rcases hs2 with ⟨h, _⟩ | ⟨q, o, cap, h1, h2, h3, h4⟩
  ·rw [← hsv] at h; cases h
  ·refine .inr ⟨q, o, cap, h1, h2, by omega, SFs.Rep.mono hzz (SFs.Rep.other (b := wb) (fun k hk => ?_) (fun i hi => ?_) h4)⟩
   ·rcases Nat.lt_or_ge k W2.heap.size with h | h
    ·exact hE.blockEq h (fun i hh => hk hh.1)
    ·have e : (setCells W2 wb 0 [sv, .int .i64 flex]).heap.size = W2.heap.size := by simp [setCells]
     rw [Array.getElem?_eq_none h, Array.getElem?_eq_none (by rw [e]; exact h)]
   ·rw [hbW2.cell (p := ⟨wb, i, none⟩) hz0]
    exact h2c i hi
 ·exact (hb0.trans (hbW2.mono (by omega))).trans (hE.below (by have := hbW2.size; omega) (by rintro k i hk ⟨h, _⟩; omega))
end
end Go.Km
namespace Go.Km
open Go Go.RowKit
attribute [local irreducible] vc rO_ runG runS runD
structure ML where
 implMax : FuncId
 spec : FuncId
 again : FuncId
 law : FuncId
 fits2 : FuncId
 fits3 : FuncId
 fits4 : FuncId
 tTup : TypeId
section
variable {P : Program} {E : Env} {w : World} {U : Nat}
end
end Go.Km
namespace Go.Km
open Go Go.RowKit
attribute [local irreducible] vc rO_ runG runS runD
end Go.Km
namespace Go.Km
open Go Go.RowKit Go.ChangeShapes Go.WideShapes Go.ChangeAt
def structB (P : Program) (t : TypeId) (l : List (TypeId × Nat)) : Bool :=
 match P.underlying t with
 | some (.struct fs) => fs.toList.map (fun f => (f.type, f.offset)) == l
 | _ => false
structure TreeT (P : Program) (E : Env) : Prop where
 tree : structB P E.tT [(E.tI64, 0), (E.tB, 1), (E.tO, 2), (E.tS, 3), (E.tK, 4)] = true
 unk : structB P E.tUnk [(E.tW, 0), (E.tB, 1)] = true
 trees : P.underlying E.tS = some (.slice E.tT)
 unks : P.underlying E.tK = some (.slice E.tUnk)
 bytes : P.underlying E.tB = some (.slice E.tU8)
 u8 : P.underlying E.tU8 = some (.int .u8)
 i64 : P.underlying E.tI64 = some (.int .i64)
 u32 : P.underlying E.tW = some (.int .u32)
 bool : P.underlying E.tO = some .bool
 cTree : P.cellsOf E.tT = 5
 cUnk : P.cellsOf E.tUnk = 2
 c8 : P.cellsOf E.tU8 = 1
 c64 : P.cellsOf E.tI64 = 1
 c32 : P.cellsOf E.tW = 1
 cBool : P.cellsOf E.tO = 1
 cBytes : P.cellsOf E.tB = 1
 cTrees : P.cellsOf E.tS = 1
 cUnks : P.cellsOf E.tK = 1
mutual
def Tr.wt : Tr → Nat
 | .mk _ s _ l u => 1 + s.length + l.wt + (u.map fun x => 1 + x.2.length).sum
def Trs.wt : Trs → Nat
 | .nil => 0
 | .cons t r => t.wt + r.wt
end
structure Bulk {H : Type} (B : DataW H → Nat) (BA : List (DataW H) → Nat) : Prop where
 agg : ∀ l, B (.agg l) = BA l + 1
 slice : ∀ l r, B (.slice l r) = BA l + BA r + 1
 nil : BA [] = 0
 cons : ∀ d r, BA (d :: r) = B d + BA r
 pos : ∀ d, 1 ≤ B d
theorem Bulk.len {H : Type} {B : DataW H → Nat} {BA : List (DataW H) → Nat} (b : Bulk B BA) : ∀ l : List (DataW H), l.length ≤ BA l
 | [] => by simp
 | d :: r => by
  have h1 := b.len r
  have h2 := b.pos d
  rw [b.cons, List.length_cons]
  omega
theorem Bulk.sum {H α : Type} {B : DataW H → Nat} {BA : List (DataW H) → Nat} (b : Bulk B BA) {f : α → Nat} : ∀ (l : List α) (es : List (DataW H × List MemPlace)), l.length = es.length → (∀ (i : Nat) (x : α) (y : DataW H × List MemPlace), l[i]? = some x → es[i]? = some y → f x ≤ B y.1) → (l.map f).sum ≤ BA (es.map (·.1))
 | [], es, _, _ => by simp
 | x :: l, [], h, _ => by simp at h
 | x :: l, y :: es, h, hp => by
  have h1 := b.sum l es (by simpa using h) (fun i x y hx hy => hp (i + 1) x y (by simpa using hx) (by simpa using hy))
  have h2 := hp 0 x y rfl rfl
  simp only [List.map_cons, List.sum_cons, b.cons]
  omega
section
variable {H : Type} {enc : TypeId × Value → H} {P : Program} {E : Env} {W : World} {sp : Nat → Bool} {held : Bool} {B : DataW H → Nat} {BA : List (DataW H) → Nat}
end
end Go.Km
namespace Go.Km
open Go Go.RowKit Go.ChangeShapes Go.WideShapes Go.ChangeAt
def Scal.width : Scal → Nat
 | .bool | .i8 => 1
 | .i16 | .u16 => 2
 | .i32 => 4
 | .i64 | .f64 => 8
section
variable {H : Type} {enc : TypeId × Value → H} {P : Program} {E : Env} {B : DataW H → Nat} {BA : List (DataW H) → Nat}
end
end Go.Km
namespace Go.Km
open Go Go.RowKit
theorem SubsC.nil {P : Program} : SubsC P [] := fun f h => by simp at h
theorem SubsC.none {P : Program} {f : SF} {l : List FE} (h : f.sub = .nil) (r : SubsC P l) : SubsC P ((f, none) :: l) := by
 intro x hx
 rcases List.mem_cons.1 hx with rfl | hx
 ·exact h
 ·exact r x hx
theorem SubsC.some {P : Program} {f : SF} {g : FuncId} {l : List FE} (h : LitC P g f.sub) (r : SubsC P l) : SubsC P ((f, some g) :: l) := by
 intro x hx
 rcases List.mem_cons.1 hx with rfl | hx
 ·exact h
 ·exact r x hx
end Go.Km
namespace Go.Km
open Go Go.RowKit
section
variable {P : Program} {a : Act} {w : World} {Q : Exit → Act → World → Prop} {ops : List Oper} {S : World → Prop}
end
attribute [local irreducible] vc rO_ runG runS runD
section
variable {P : Program} {E : Env}
end
end Go.Km
namespace Go.Km
open Go Go.RowKit
attribute [local irreducible] vc rO_ runG runS runD
def c_newK (m : Msg) : Code :=
 sq [rg [(oQ 0 (.alloc m.TU) 0)], rg [(oQ 1 (.alloc m.TU) 0)], rg [(oQ 2 (.call { callee := .value (.func m.FD), args := #[.tmp 1], argTypes := #[m.TU] }) 0)],
  rg [(oQ 3 (.load m.TU (.tmp 1)) m.TU), ⟨none, .store m.TU (.tmp 0) (.tmp 3), 0, "", #[], none⟩], .ret]
def NewKC (P : Program) (f : FuncId) (m : Msg) : Prop := ∀ w, CallsV P f #[] w fun v w' => v = .agg (Value.int .i16 0 :: m.fs.dz).toArray ∧ Below w.heap.size w w'
structure MK where
 newK : FuncId
 app : FuncId
 rd : FuncId
 again : FuncId
def c_againK (E : Env) (m : Msg) (N : MK) : Code :=
 (sq [(rg [(oQ 2 (.assign (.const (.slice none 0 0))) E.tB),
   (oQ 3 (.assign (.const (.bool false))) E.tO)]),
  (rg [(oQ 5 (.call { callee := .value (.func N.newK), args := #[], argTypes := #[] }) m.TU),
   (oQ 4 (.alloc m.TU) 0),
   ⟨none, .store m.TU (.tmp 4) (.tmp 5), 0, "", #[], none⟩]),
  (sq [(rg [(oQ 6 (.move (.tmp 0)) E.tB),
    (oQ 7 (.call { callee := .builtin .append, args := #[(.const (.slice none 0 0)), (.tmp 6)], argTypes := #[E.tB, E.tB] }) E.tB),
    (oQ 8 (.call { callee := .value (.func N.rd), args := #[(.tmp 4), (.tmp 7)], argTypes := #[m.TU, E.tB] }) E.tErr),
    (oQ 9 (.binOp .neq E.tErr (.tmp 8) (.const .nilIface) E.tErr) E.tO)]),
   (.cond (.tmp 9)
    (sq [(rg [(oQ 2 (.assign (.const (.slice none 0 0))) E.tB),
      (oQ 3 (.assign (.const (.bool false))) E.tO)]),
     .ret])
    .skip)]),
  (rg [(oQ 10 (.call { callee := .value (.func N.app), args := #[(.tmp 4), (.const (.slice none 0 0))], argTypes := #[m.TU, E.tB] }) E.tB),
   (oQ 2 (.assign (.tmp 10)) E.tB),
   (oQ 3 (.assign (.const (.bool true))) E.tO)]),
  .ret])
section
variable {P : Program} {E : Env} {T : List (Nat × List UInt8) → Prop}
theorem c_newK_ok {m : Msg} {f : FuncId} {np nt npd ntd : Nat} (ht : Text P f np nt #[.cell 0 m.TU] (c_newK m)) (hn : 4 ≤ nt) (hd : Text P m.FD npd ntd #[] (dcode E m.TP m.TU 1 m.fs)) (hnd : 2 + m.fs.dn + m.fs.dt ≤ ntd) (hok : m.fs.okD P E m.TU 1 1 = true)
  (hz : (zeroT P m.TU).map (·.cells.toList) = some (.int .i16 0 :: m.fs.zc)) (ha : aggT P m.TU = some (m.fs.size + 1)) (h1c : (m.fs.dz.all fun v => v.oneCell') = true) (hdl : m.fs.dz.length = m.fs.size) : NewKC P f m := by
 intro w
 obtain ⟨z, hz0, hzc⟩ : ∃ z, zeroT P m.TU = some z ∧ z.cells.toList = .int .i16 0 :: m.fs.zc := by
  cases h : zeroT P m.TU with
  | none => rw [h] at hz; cases hz
  | some z => rw [h] at hz; exact ⟨z, rfl, by simpa using hz⟩
 have hzl : z.cells.size = m.fs.size + 1 := by
  have := congrArg List.length hzc
  simpa [Flds.zc_len] using this
 refine CallsV.enter ht (by simp) ?_
 intro a hsz hdf harg
 unfold c_newK
 refine vX ?_
 refine r_alloc hz0 ?_
 refine dn ?_
 have hb0 : Below w.heap.size w (w.alloc (.cells z.cells m.TU)) := (Below.refl w.heap.size w).alloc (o := .cells _ _) (Nat.le_refl _)
 have hfr0 : ∀ i, i < m.fs.size + 1 → Free (w.alloc (.cells z.cells m.TU)) w.heap.size i := fun i hi => free_new w _ m.TU (by omega)
 have hz0' : (w.alloc (.cells z.cells m.TU)).heap.size = w.heap.size + 1 := by simp
 generalize w.alloc (.cells z.cells m.TU) = w0 at *
 refine vX ?_
 refine r_alloc hz0 ?_
 refine dn ?_
 have hb1 : Below w0.heap.size w0 (w0.alloc (.cells z.cells m.TU)) := (Below.refl w0.heap.size w0).alloc (o := .cells _ _) (Nat.le_refl _)
 have hfr : ∀ i, i < m.fs.size + 1 → Free (w0.alloc (.cells z.cells m.TU)) w0.heap.size i := fun i hi => free_new w0 _ m.TU (by omega)
 have hcz : Cells (w0.alloc (.cells z.cells m.TU)) w0.heap.size 0 (.int .i16 0 :: m.fs.zc) := by
  intro i v hv
  rw [Nat.zero_add]
  refine cells_new w0 _ m.TU ?_
  rw [← hzc] at hv
  simpa using hv
 have hfr1 : ∀ i, i < m.fs.size + 1 → Free (w0.alloc (.cells z.cells m.TU)) w.heap.size i := fun i hi => (hfr0 i hi).eff ((Eff.refl (fun _ _ => False) _).alloc _)
 generalize w0.alloc (.cells z.cells m.TU) = W at *
 generalize hbb : w0.heap.size = b at *
 refine vX ?_
 refine r_call' (args := #[.pointer (some ⟨b, 0, none⟩)]) ?_ (c_dflt (b := b) (o := 0) (cs := m.fs.zc) hd hnd hok (Flds.zc_len _) (hcz.dp (n := 1)) (fun i hi => by have := hfr (i + 1) (by omega); rwa [show 0 + 1 + i = i + 1 by omega])) ?_
 ·simp only [lM]
  simp (disch := (try simp only [sP]); omega) only [eV]
 rintro v W1 ⟨h1, h2⟩
 refine dn ?_
 rw [Flds.over_zc] at h2
 have h0 : Cells W1 b 0 [.int .i16 0] := (hcz.tk (n := 1)).eff h1 (by intro i hi ⟨_, h, _⟩; simp at hi; omega)
 have hall : Cells W1 b 0 (.int .i16 0 :: m.fs.dz) := h0.append h2
 have hfw : ∀ i, i < m.fs.size + 1 → Free W1 w.heap.size (0 + i) := fun i hi => by rw [Nat.zero_add]; exact (hfr1 i hi).eff h1
 have hlen : (Value.int .i16 0 :: m.fs.dz).length = m.fs.size + 1 := by simp [hdl]
 refine vX ?_
 refine r_loadAgg (b := b) (o := 0) (cs := .int .i16 0 :: m.fs.dz) (by simp (disch := (try simp only [sP]); omega) only [eV]) (by rw [hlen]; exact ha) hall ?_
 refine r_storeAgg (b := w.heap.size) (o := 0) (cs := .int .i16 0 :: m.fs.dz) (by simp (disch := (try simp only [sP]); omega) only [eV]) (by simp (disch := (try simp only [sP]); omega) only [eV]) (by
  intro v hv
  rcases List.mem_cons.1 hv with rfl | hv
  ·rfl
  ·exact List.all_eq_true.1 h1c v hv) (by rw [hlen]; exact ha) (fun i hi => hfw i (by rw [hlen] at hi; exact hi)) ?_
 refine dn ?_
 have hc4 : Cells (setCells W1 w.heap.size 0 (.int .i16 0 :: m.fs.dz)) w.heap.size 0 (.int .i16 0 :: m.fs.dz) := fun j u hu => setCells_cell _ _ _ _ (fun j hj => (hfw j (by rw [hlen] at hj; exact hj)).1) j u hu
 have hE := setCells_eff w.heap.size (.int .i16 0 :: m.fs.dz) W1 0
 refine vS (vT ?_)
 refine ⟨by simp only [dF]; exact hdf, .agg (Value.int .i16 0 :: m.fs.dz).toArray, results_cell (b := w.heap.size) (o := 0) (cs := .int .i16 0 :: m.fs.dz) (by simp (disch := (try simp only [sP]); omega) only [eV]) (by rw [hlen]; exact ha) hc4, rfl, ?_⟩
 have hz1 := hb1.size
 have hz2 := h1.size
 have hbW : Below w.heap.size w W := hb0.trans (hb1.mono (by omega))
 refine (hbW.trans (h1.below (by omega) (by rintro k i hk ⟨h, _⟩; omega))).trans (hE.below (by omega) ?_)
 rintro k i hk ⟨h, _⟩
 omega
set_option maxHeartbeats 1000000 in
theorem c_againK_ok (HW : EnvW P E T) (HI : EnvI P E) (HB : rowB P E.tB E.tU8 1 = true) (oE : ifaceT P E.tErr = true) {m : Msg} {N : MK} {np nt npa nta : Nat}
  (ht : Text P N.again np nt #[.tmp 2, .tmp 3] (c_againK E m N)) (hn : 11 ≤ nt) (hN : NewKC P N.newK m) (hR : ReadC P E T m N.rd) (ha : Text P N.app npa nta #[.tmp 4] (m.wcode E)) (hna : m.wtop ≤ nta) (hokw : m.okW P E = true) (hk : m.kept = true)
  (hz : (zeroT P m.TU).map (·.cells.size) = some (m.fs.size + 1)) (hagg : aggT P m.TU = some (m.fs.size + 1)) (h1c : (m.fs.dz.all fun v => v.oneCell') = true) (hdl : m.fs.dz.length = m.fs.size)
  {ver : Nat} {l : List UInt8} {sv ev : Value} {W : World} (hv : ver < 32768) (hrv : m.rver 0 l = (ver : Int)) (hsrc : ∀ w', Below W.heap.size W w' → Src P 1 E.tB sv l.length (l.map bv) w') (hl : l.length ≤ big) (he : W.cell? ⟨E.vErr, 0, none⟩ = some ev) (hev : ∃ u z, ev = .iface u z)
  (hb : ∀ x, m.back ver l = some x → x.length ≤ big) : CallsV P N.again #[sv] W fun r w' => BackV E (m.back ver l) W w' r := by
 obtain ⟨z, hz0, hzl⟩ : ∃ z, zeroT P m.TU = some z ∧ z.cells.size = m.fs.size + 1 := by
  cases h : zeroT P m.TU with
  | none => rw [h] at hz; cases hz
  | some z => rw [h] at hz; exact ⟨z, rfl, by simpa using hz⟩
 have hlen : (Value.int .i16 0 :: m.fs.dz).length = m.fs.size + 1 := by simp [hdl]
 refine CallsV.enter ht (by simp; omega) ?_
 intro a hsz hdf harg
 have e0 := harg 0 sv (by simp)
 have hevlt : E.vErr < W.heap.size := lt_of_cell he
 unfold c_againK
 refine vX (rA (rA (dn (vX ?_))))
 refine r_call' (args := #[]) (by simp) (hN W) ?_
 rintro v w1 ⟨rfl, hb1⟩
 refine r_alloc hz0 ?_
 have hb2 : Below w1.heap.size w1 (w1.alloc (.cells z.cells m.TU)) := (Below.refl w1.heap.size w1).alloc (o := .cells _ _) (Nat.le_refl _)
 have hf2 : ∀ i, i < m.fs.size + 1 → Free (w1.alloc (.cells z.cells m.TU)) w1.heap.size (0 + i) := fun i hi => by rw [Nat.zero_add]; exact free_new w1 _ m.TU (by omega)
 have hz2 : w1.heap.size < (w1.alloc (.cells z.cells m.TU)).heap.size := by simp
 generalize w1.alloc (.cells z.cells m.TU) = w2 at *
 refine r_storeAgg (b := w1.heap.size) (o := 0) (cs := .int .i16 0 :: m.fs.dz) (by simp (disch := (try simp only [sP]); omega) only [eV]) (by simp (disch := (try simp only [sP]); omega) only [eV]) (by
  intro v hv
  rcases List.mem_cons.1 hv with rfl | hv
  ·rfl
  ·exact List.all_eq_true.1 h1c v hv) (by rw [hlen]; exact hagg) (fun i hi => hf2 i (by rw [hlen] at hi; exact hi)) ?_
 refine dn ?_
 have hE := setCells_eff w1.heap.size (.int .i16 0 :: m.fs.dz) w2 0
 have hc3 : Cells (setCells w2 w1.heap.size 0 (.int .i16 0 :: m.fs.dz)) w1.heap.size 0 (.int .i16 0 :: m.fs.dz) := fun j u hu => setCells_cell _ _ _ _ (fun j hj => (hf2 j (by rw [hlen] at hj; exact hj)).1) j u hu
 have hf3 : ∀ i, i < m.fs.size + 1 → Free (setCells w2 w1.heap.size 0 (.int .i16 0 :: m.fs.dz)) w1.heap.size i := fun i hi => by have := (hf2 i hi).eff hE; rwa [Nat.zero_add] at this
 have hb13 : Below w1.heap.size w1 (setCells w2 w1.heap.size 0 (.int .i16 0 :: m.fs.dz)) := hb2.trans (hE.below (Nat.le_of_lt hz2) (by rintro k i hk ⟨h, _⟩; omega))
 have hz3 : w1.heap.size < (setCells w2 w1.heap.size 0 (.int .i16 0 :: m.fs.dz)).heap.size := Nat.lt_of_lt_of_le hz2 hE.size
 generalize setCells w2 w1.heap.size 0 (.int .i16 0 :: m.fs.dz) = w3 at *
 have hz1 := hb1.size
 have hb03 : Below W.heap.size W w3 := hb1.trans (hb13.mono hz1)
 generalize hmb : w1.heap.size = mb at *
 generalize ha1 : Act.put _ (some 4) _ = a1
 have hf1 : Fr (fun k => k = 0) a a1 := by
  subst ha1
  exact ((((Fr.refl _ a).put _ (by omega)).put _ (by omega)).put _ (by omega)).put _ (by omega)
 have h4 : a1.eval (.tmp 4) = .pointer (some ⟨mb, 0, none⟩) := by subst ha1; simp (disch := (try simp only [sP]); omega) only [eV]
 have h0 : a1.eval (.tmp 0) = sv := by rw [hf1.slot 0 rfl]; exact e0
 have hsz1 := hf1.size
 have hdf1 := hf1.defers
 clear ha1
 refine vS (vX (rM ?_))
 refine r_append (U := w3.heap.size) (v := .slice none 0 0) (n := 0) (xs := []) (u := sv) (m := l.length) (news := l.map bv) HB rfl (by simp (disch := (try simp only [sP]); omega) only [eV, h0]) (World.ownsRow_nil _ _ _ _) (Nat.le_refl _) (hsrc _ hb03) (by omega) ?_
 intro v3 w4 hown3 hb4
 rw [Nat.zero_add, List.nil_append] at hown3
 have hb04 : Below W.heap.size W w4 := hb03.trans (hb4.mono (by omega))
 have hev4 : w4.cell? ⟨E.vErr, 0, none⟩ = some ev := by rw [hb04.cell (p := ⟨E.vErr, 0, none⟩) hevlt]; exact he
 have hz4 := hb4.size
 obtain ⟨sb, hsv, hsb, hsbc⟩ := own_src (d := E.vErr) hown3 (by omega) (by omega)
 have hc4 : Cells w4 mb 0 (.int .i16 ((0 : Nat) : Int) :: m.fs.dz) := hc3.below hb4 hz3
 have hf4 : ∀ i, i < m.fs.size + 1 → Free w4 mb i := fun i hi => (hf3 i hi).eff (Eff.of_below (M := fun _ _ => False) hb4)
 refine r_call' (args := #[.pointer (some ⟨mb, 0, none⟩), v3]) ?_ (hR ver 0 mb sb ev v3 l w4 hrv hc4 hf4 hsv hsb hl hev4 (by omega) (by omega)) ?_
 ·simp only [lM]
  simp (disch := (try simp only [sP]); omega) only [eV, h4]
 intro x w5 hx
 have hbw5 : Below W.heap.size W w5 := hb04.trans (hx.2.1.below (by omega) (by rintro k i hk rfl; omega))
 have hz5 := hx.2.1.size
 have hxv := hx.1
 refine r_neqNil (v := x) oE (by simp (disch := (try simp only [sP]); omega) only [eV]) (by rw [hxv]; split; exact .inr hev; exact .inl rfl) ?_
 refine dn ?_
 have hcv : isErr x = (m.rdv ver (m.rst l)).2.2.2 := by
  rw [hxv]
  obtain ⟨u, z, rfl⟩ := hev
  cases (m.rdv ver (m.rst l)).2.2.2 <;> rfl
 rw [hcv]
 refine vS (vC (t := (m.rdv ver (m.rst l)).2.2.2) (by simp (disch := (try simp only [sP]); omega) only [eV]) ?_ ?_)
 ·intro h
  refine vX (rA (rA (dn (vS (vT ?_)))))
  refine ⟨by simp only [dF]; rw [hdf1]; exact hdf, .tuple #[.slice none 0 0, .bool false], results_two (by simp (disch := (try simp only [sP]); omega) only [eV]) (by simp (disch := (try simp only [sP]); omega) only [eV]), hbw5, ?_⟩
  simp only [Msg.back, h, if_true]
 ·intro h
  refine vK (vN ?_)
  have hbk : m.back ver l = some (m.out ver (m.rdv ver (m.rst l)).1 (m.rdv ver (m.rst l)).2.1) := by simp [Msg.back, h]
  refine vX ?_
  refine r_call' (args := #[.pointer (some ⟨mb, 0, none⟩), .slice none 0 0]) ?_ (rf_out HW HI ha hna hokw hv hx h (hb _ hbk)) ?_
  ·simp only [lM]
   simp (disch := (try simp only [sP]); omega) only [eV, h4]
  rintro y w6 ⟨hy, hb6⟩
  refine rA (rA (dn (vS (vT ?_))))
  refine ⟨by simp only [dF]; rw [hdf1]; exact hdf, .tuple #[y, .bool true], results_two (by simp (disch := (try simp only [sP]); omega) only [eV]) (by simp (disch := (try simp only [sP]); omega) only [eV]), hbw5.trans (hb6.mono (by omega)), ?_⟩
  rw [hbk]
  exact ⟨y, rfl, own_mono2 hy (by omega)⟩
end
end Go.Km
namespace Go.Km
open Go Go.RowKit
attribute [local irreducible] vc rO_ runG runS runD
def AgainKC (P : Program) (E : Env) (m : Msg) (f : FuncId) : Prop :=
 ∀ (ver : Nat) (l : List UInt8) (sv ev : Value) (W : World), ver < 32768 → m.rver 0 l = (ver : Int) → BytesIn P E W sv l → l.length ≤ big → W.cell? ⟨E.vErr, 0, none⟩ = some ev → (∃ u z, ev = .iface u z) → (∀ x, m.back ver l = some x → x.length ≤ big) →
  CallsV P f #[sv] W fun r w' => BackV E (m.back ver l) W w' r
structure LawK0 (P : Program) (E : Env) (A : ML) (fs : SFs) (flex : Int) : Prop where
 se : SEnv P E
 sl : SLay P E
 st : STexts P E
 hz8 : zeroT P E.tU8 = some (.int .u8 0)
 hoM : offs P E.tMsg 2 = true
 hM : aggT P E.tMsg = some 2
 kept : Text P E.sKept 3 14 #[.tmp 6] (c_sKept E)
 spec : SpecC P A.spec fs flex
section
variable {P : Program} {E : Env}
theorem againKC {T : List (Nat × List UInt8) → Prop} (HW : EnvW P E T) (HI : EnvI P E) (HB : rowB P E.tB E.tU8 1 = true) (oE : ifaceT P E.tErr = true) {m : Msg} {N : MK} {np nt npa nta : Nat}
  (ht : Text P N.again np nt #[.tmp 2, .tmp 3] (c_againK E m N)) (hn : 11 ≤ nt) (hN : NewKC P N.newK m) (hR : ReadC P E T m N.rd) (ha : Text P N.app npa nta #[.tmp 4] (m.wcode E)) (hna : m.wtop ≤ nta) (hokw : m.okW P E = true) (hk : m.kept = true)
  (hz : (zeroT P m.TU).map (·.cells.size) = some (m.fs.size + 1)) (hagg : aggT P m.TU = some (m.fs.size + 1)) (h1c : (m.fs.dz.all fun v => v.oneCell') = true) (hdl : m.fs.dz.length = m.fs.size) : AgainKC P E m N.again :=
 fun ver l sv ev W hv hrv hin hl he hev hb => c_againK_ok HW HI HB oE ht hn hN hR ha hna hokw hk hz hagg h1c hdl hv hrv hin.2 hl he hev hb
set_option maxHeartbeats 1000000 in
theorem c_sKept_ok {A : ML} {fs : SFs} {flex : Int} (L : LawK0 P E A fs flex) (hg : fs.good = true) (hlen : fs.len ≤ 65536) {ver : Nat} {t : Tr} {ts : List Value} {sv : Value} {w : World} (hsl : SlF w w.heap.size sv fs) (hr : t.Rep w w.heap.size ts)
  (hbig : (be 2 (ver : Int) ++ fs.part ver (decide (flex ≥ 0) && decide ((ver : Int) ≥ flex)) t).length ≤ big) :
  Gives P E E.sKept w.heap.size #[.agg [sv, .int .i64 flex].toArray, .int .i64 ver, .agg ts.toArray] (be 2 (ver : Int) ++ fs.part ver (decide (flex ≥ 0) && decide ((ver : Int) ≥ flex)) t) w := by
 have H := L.se
 have hsv1 : sv.oneCell' = true := by rcases hsl with ⟨rfl, _⟩ | ⟨q, o, cap, rfl, _⟩ <;> rfl
 refine CallsV.enter L.kept (by simp) ?_
 intro a hsz hdf harg
 have e0 := harg 0 (.agg [sv, .int .i64 flex].toArray) (by simp)
 have e1 := harg 1 (.int .i64 ver) (by simp)
 have e2 := harg 2 (.agg ts.toArray) (by simp)
 unfold c_sKept
 refine vX ?_
 refine r_box (v := .agg [sv, .int .i64 flex].toArray) (by simp (disch := (try simp only [sP]); omega) only [eV, e0]) ?_
 refine r_box (v := .agg ts.toArray) (by simp (disch := (try simp only [sP]); omega) only [eV, e2]) ?_
 refine rA (dn ?_)
 generalize hw1 : w.alloc (.cells (Value.agg [sv, .int .i64 flex].toArray).cells E.tMsg) = w1
 have hb1 : Below w.heap.size w w1 := by rw [← hw1]; exact (Below.refl _ w).alloc (o := .cells _ _) (Nat.le_refl _)
 have hz1 : w1.heap.size = w.heap.size + 1 := by rw [← hw1]; simp
 have c1 : Cells w1 w.heap.size 0 [sv, .int .i64 flex] := by
  intro i v hv
  rw [← hw1, Nat.zero_add]
  exact cells_new w _ E.tMsg (by simpa [Value.cells] using hv)
 clear hw1
 generalize hw2 : w1.alloc (.cells (Value.agg ts.toArray).cells E.tT) = W
 have hb2 : Below w1.heap.size w1 W := by rw [← hw2]; exact (Below.refl _ w1).alloc (o := .cells _ _) (Nat.le_refl _)
 have hz2 : W.heap.size = w1.heap.size + 1 := by rw [← hw2]; simp
 have d2 : Cells W w1.heap.size 0 ts := by
  intro i v hv
  rw [← hw2, Nat.zero_add]
  exact cells_new w1 _ E.tT (by simpa [Value.cells] using hv)
 have d1 : Cells W w.heap.size 0 [sv, .int .i64 flex] := c1.below hb2 (by omega)
 clear hw2
 generalize hm1 : w1.heap.size = m1 at *
 have hbW : Below w.heap.size w W := hb1.trans (hb2.mono (by omega))
 have haT : aggT P E.tT = some ts.length := by rw [hr.len]; exact H.aTree
 generalize hG : Act.put _ (some 6) _ = G
 have hsG : G.tmps.size = 14 := by rw [← hG]; simp only [zP]; exact hsz
 have hdG : G.defers = [] := by rw [← hG]; simp only [dF]; exact hdf
 have k1 : G.eval (.tmp 1) = .int .i64 ver := by rw [← hG]; simp (disch := (try simp only [sP]); omega) only [eV, e1]
 have k3 : G.eval (.tmp 3) = .pointer (some ⟨w.heap.size, 0, none⟩) := by rw [← hG]; simp (disch := (try simp only [sP]); omega) only [eV]
 have k5 : G.eval (.tmp 5) = .pointer (some ⟨m1, 0, none⟩) := by rw [← hG]; rw [← hm1]; simp (disch := (try simp only [sP]); omega) only [eV]
 clear hG
 have hbd : Below W.heap.size W { W with drawn := W.drawn + 1 } := ⟨rfl, rfl, rfl, Nat.le_refl _, fun _ _ => rfl⟩
 have mkS : ∀ w', Below W.heap.size W w' → Cells w' w.heap.size 0 [sv, .int .i64 flex] ∧ Cells w' m1 0 ts := fun w' h => ⟨d1.below h (by omega), d2.below h (by omega)⟩
 have hS := mkS _ hbd
 refine vS (vc_rgd [(0, true), (2, true), (3, true), (4, true), (1, false), (5, false), (6, false), (7, true)] (fun W' => Cells W' w.heap.size 0 [sv, .int .i64 flex] ∧ Cells W' m1 0 ts) L.st.mixed (by kernel_rfl) rfl (by kernel_rfl) (fun _ _ _ _ h => False.elim h) ?_)
 refine dP rfl rfl rfl (wN rfl) (by simp only [zP, hsG]; omega) hS (fun w' hS' => rM (dn ⟨rfl, rfl, rfl⟩)) ?_
 refine dP rfl rfl rfl (wN rfl) (by simp only [zP, hsG]; omega) hS (fun w' hS' => r_loadAgg (b := w.heap.size) (o := 0) (cs := [sv, .int .i64 flex]) (by simp (disch := (try simp only [sP]); omega) only [eV, k3]) L.hM hS'.1 (dn ⟨rfl, rfl, rfl⟩)) ?_
 refine dP rfl rfl rfl (wN rfl) (by simp only [zP, hsG]; omega) hS (fun w' hS' => rM (dn ⟨rfl, rfl, rfl⟩)) ?_
 refine dP rfl rfl rfl (wN rfl) (by simp only [zP, hsG]; omega) hS (fun w' hS' => r_loadAgg (b := m1) (o := 0) (cs := ts) (by simp (disch := (try simp only [sP]); omega) only [eV, k5]) haT hS'.2 (dn ⟨rfl, rfl, rfl⟩)) ?_
 refine d_sole rfl (wN rfl) ?_
 refine r_call' (args := #[.int .i64 ver, .int .i64 (2 : Nat)]) ?_ (s_fixed (U := W.heap.size) (n := (ver : Int)) (k := 2) L.st.fixed H.row H.u8 H.i64 H.int (by omega) (Nat.le_refl _)) ?_
 ·simp only [lM]
  simp (disch := (try simp only [sP]); omega) only [eV, k1]
  rfl
 rintro v3 w3 ⟨hown3, hb3⟩
 have hbW3 : Below W.heap.size W w3 := hbd.trans hb3
 refine dn (d_then (mkS _ hbW3) ?_)
 refine d_sole rfl (wN rfl) ?_
 have hb03 : Below w.heap.size w w3 := hbW.trans (hbW3.mono (by omega))
 have hsl3 : SlF w3 w3.heap.size sv fs := (hsl.below hb03).mono hb03.size
 have hr3 : t.Rep w3 w3.heap.size ts := (hr.below hb03).mono hb03.size
 have hbig2 : (fs.part ver (decide (flex ≥ 0) && decide ((ver : Int) ≥ flex)) t).length ≤ big := by rw [List.length_append] at hbig; omega
 refine r_call' (args := #[.agg [sv, .int .i64 flex].toArray, .int .i64 ver, .agg ts.toArray]) ?_ (s_write (ver := (ver : Int)) (flex := flex) (t := t) H L.sl L.st L.hoM hsl3 hr3 (Nat.le_refl _) (partC H L.sl L.st L.hz8 hg hlen) hbig2) ?_
 ·simp only [lM]
  simp (disch := (try simp only [sP]); omega) only [eV, k1]
 rintro v5 w5 ⟨hown5, hb5⟩
 generalize fs.part ver (decide (flex ≥ 0) && decide ((ver : Int) ≥ flex)) t = bs at *
 have hbW5 : Below W.heap.size W w5 := hbW3.trans (hb5.mono hbW3.size)
 refine dn (d_then (mkS _ hbW5) ?_)
 refine d_sole rfl (wN rfl) ?_
 have hown35 := own_below2 hown3 hb5
 refine r_append (U := W.heap.size) (v := v3) (n := (be 2 (ver : Int)).length) (xs := (be 2 (ver : Int)).map bv) (u := v5) (m := bs.length) (news := bs.map bv) H.row (by simp (disch := (try simp only [sP]); omega) only [eV]) (by simp (disch := (try simp only [sP]); omega) only [eV]) hown35 hbW5.size (src_own (rB H.row) hown5 (bv_one _)) (by rw [List.length_append] at hbig; exact hbig) ?_
 intro v6 w6 hown6 hb6
 have hbW6 : Below W.heap.size W w6 := hbW5.trans hb6
 refine dn (d_then (mkS _ hbW6) ?_)
 refine dP rfl rfl rfl (wN rfl) (by simp only [zP, hsG]; omega) (mkS _ hbW6) (fun w' hS' => rA (dn ⟨rfl, rfl, rfl⟩)) ?_
 refine d_nil ?_
 refine vS (vT ?_)
 refine ⟨by simp only [dF]; exact hdG, v6, rO (by simp (disch := (try simp only [sP]); omega) only [eV]), ?_, hbW.trans (hbW6.mono (by omega))⟩
 rw [← List.map_append, ← List.length_append] at hown6
 exact own_mono2 hown6 (by omega)
end
end Go.Km
namespace Go.Km
open Go Go.RowKit
attribute [local irreducible] vc rO_ runG runS runD
section
variable {P : Program} {E : Env}
end
end Go.Km
namespace Go.Km
open Go Go.RowKit Go.ChangeShapes Go.WideShapes Go.ChangeAt
section
variable {H : Type} {enc : TypeId × Value → H} {P : Program} {E : Env}
theorem open_octs (ht : P.underlying E.tB = some (.slice E.tU8)) (he : P.underlying E.tU8 = some (.int .u8)) (hc : P.cellsOf E.tU8 = 1) {W : World} {base : Nat} {v : Value} {d : DataW H} {p : List MemPlace}
  (hval : Value.okWide P W .any base E.tB v) (h : DataW.Trod enc P W 0 (fun _ => true) true E.tB v d p) : ∃ l, BytesIn P E W v l ∧ l.length ≤ maxLen := by
 obtain ⟨a, len, cap, rfl⟩ := okWide_slice ht hval
 obtain ⟨fuel, hf⟩ := h
 rcases open_ints ht he hc hf with ⟨hcs, hx⟩ | ⟨a, len', cap', zs, hcs, _, hl, hm, hz, hx, hcell, hwz⟩
 ·simp [Value.cells] at hcs
  obtain ⟨rfl, rfl, rfl⟩ := hcs
  exact ⟨[], ⟨⟨_, _, rfl⟩, fun w' _ => Src.ofNil w' ht 0⟩, Nat.zero_le _⟩
 ·simp [Value.cells] at hcs
  obtain ⟨rfl, rfl, rfl⟩ := hcs
  simp only [if_true] at hz
  have hlen : ((zs.take len).map fun n => UInt8.ofNat n.toNat).length = len := by simp; omega
  refine ⟨(zs.take len).map fun n => UInt8.ofNat n.toNat, ⟨⟨_, _, by rw [hlen]⟩, fun w' hb => ?_⟩, by rw [hlen]; omega⟩
  rw [hlen]
  refine Src.ofSlice w' ht a len cap _ (by simp; omega) (fun j u hu => ?_) (bv_one _)
  have hj : j < len := by
   rcases Nat.lt_or_ge j len with h | h
   ·exact h
   ·rw [List.getElem?_eq_none (by simp; omega)] at hu; cases hu
  have hcj := hcell j (by omega)
  rw [Below.cell hb (p := a.add j) (World.block_lt_of_cell? W _ hcj), hcj]
  have hb2 := range_u8 hwz j
  simp only [List.getElem?_map, List.getElem?_take, if_pos hj, List.getElem?_eq_getElem (show j < zs.length by omega), Option.map_some, Option.some.injEq] at hu
  subst hu
  have e : zs.getD j 0 = zs[j]'(by omega) := by simp [List.getD, List.getElem?_eq_getElem (show j < zs.length by omega)]
  rw [e]
  rw [List.getD_eq_getElem?_getD] at e
  rw [e] at hb2
  simp only [bv, UInt8.toNat_ofNat']
  congr 2
  omega
end
attribute [local irreducible] vc rO_ runG runS runD
section
variable {P : Program} {E : Env}
end
end Go.Km
namespace Go.Km
open Go Go.RowKit
attribute [local irreducible] vc rO_ runG runS runD
theorem u8_of (b : UInt8) (n : Nat) (h : n = b.toNat) : UInt8.ofNat n = b := by subst h; simp
theorem be2_beN (a b : UInt8) : be 2 ((a.toNat * 256 + b.toNat : Nat) : Int) = [a, b] := by
 have ha := a.toNat_lt
 have hb := b.toNat_lt
 have h1 : (((a.toNat * 256 + b.toNat : Nat) : Int).fdiv (256 ^ 1) % 256).toNat = a.toNat := by
  rw [Int.fdiv_eq_ediv_of_nonneg _ (by decide)]
  omega
 have h2 : (((a.toNat * 256 + b.toNat : Nat) : Int).fdiv (256 ^ 0) % 256).toNat = b.toNat := by
  rw [Int.fdiv_eq_ediv_of_nonneg _ (by decide)]
  omega
 simp only [be, h1, h2]
 rw [u8_of a _ rfl, u8_of b _ rfl]
theorem be2_sgn {n : Nat} (h : n < 65536) : be 2 (sgn 2 n) = be 2 (n : Int) := by
 refine be_congr 2 _ _ ?_
 rw [sgn_mod (by decide) h]
 have h2 : ((256 ^ 2 : Nat) : Int) = 65536 := by decide
 rw [h2]
 omega
theorem rdN2_cons (a b : UInt8) (l : List UInt8) : rdN 2 (a :: b :: l, false) = (a.toNat * 256 + b.toNat, l, false) := by
 unfold rdN
 rw [if_neg (by simp)]
 simp [beN]
theorem rdN2_short {l : List UInt8} {bad : Bool} (h : l.length < 2) : (rdN 2 (l, bad)).2 = ([], true) := by
 unfold rdN
 rw [if_pos (by simpa using h)]
def crkSt (l : List UInt8) : RSt := (rdN 2 (rdN 2 (l, false)).2).2
def crkA (l : List UInt8) : Int := sgn 2 (rdN 2 (l, false)).1
def crkB (l : List UInt8) : Int := sgn 2 (rdN 2 (rdN 2 (l, false)).2).1
theorem crk_bad (l : List UInt8) : (crkSt l).2 = decide (l.length < 4) := by
 unfold crkSt
 match l with
 | [] => rw [rdN2_short (l := []) (bad := false) (by simp), rdN2_short (l := []) (by simp)]; rfl
 | [a] => rw [rdN2_short (l := [a]) (bad := false) (by simp), rdN2_short (l := []) (by simp)]; rfl
 | [a, b] => rw [rdN2_cons, rdN2_short (by simp)]; rfl
 | [a, b, c] => rw [rdN2_cons, rdN2_short (by simp)]; rfl
 | a :: b :: c :: d :: r =>
  rw [rdN2_cons, rdN2_cons]
  simp
theorem crk_out {l : List UInt8} (h : 4 ≤ l.length) : be 2 (crkA l) ++ be 2 (crkB l) = l.take 4 := by
 unfold crkA crkB
 match l, h with
 | a :: b :: c :: d :: r, _ =>
  have ha := a.toNat_lt
  have hb := b.toNat_lt
  have hc := c.toNat_lt
  have hd := d.toNat_lt
  rw [rdN2_cons, rdN2_cons, be2_sgn (by omega), be2_sgn (by omega), be2_beN, be2_beN]
  rfl
structure CK where
 TU : TypeId
 TP : TypeId
 TK : TypeId
 FD : FuncId
def c_crkApp (E : Env) (C : CK) : Code :=
 (sq [(rg [(oQ 4 (.assign (.const (.slice none 0 0))) E.tB)]),
  (rg [(oQ 9 (.move (.tmp 0)) C.TP),
   (oQ 10 (.nilCheck (.tmp 9)) 0),
   (oQ 11 (.fieldAddr C.TU (.tmp 10) 0) 0),
   (oQ 12 (.load E.tI16 (.tmp 11)) E.tI16),
   (oQ 5 (.assign (.tmp 12)) E.tI16)]),
  (rg [(oQ 13 (.move (.tmp 5)) E.tI16)]),
  (sq [(rg [(oQ 14 (.move (.tmp 0)) C.TP),
    (oQ 15 (.nilCheck (.tmp 14)) 0),
    (oQ 16 (.fieldAddr C.TU (.tmp 15) 0) 0),
    (oQ 17 (.load E.tI16 (.tmp 16)) E.tI16),
    (oQ 6 (.assign (.tmp 17)) E.tI16)]),
   (rg [(oQ 18 (.move (.tmp 1)) E.tB),
    (oQ 19 (.move (.tmp 6)) E.tI16),
    (oQ 20 (.call { callee := .value (.func E.wI16), args := #[(.tmp 18), (.tmp 19)], argTypes := #[E.tB, E.tI16] }) E.tB),
    (oQ 1 (.assign (.tmp 20)) E.tB)])]),
  (sq [(rg [(oQ 21 (.move (.tmp 0)) C.TP),
    (oQ 22 (.nilCheck (.tmp 21)) 0),
    (oQ 23 (.fieldAddr C.TU (.tmp 22) 1) 0),
    (oQ 24 (.load C.TK (.tmp 23)) C.TK),
    (oQ 7 (.assign (.tmp 24)) C.TK)]),
   (rg [(oQ 25 (.move (.tmp 7)) C.TK),
    (oQ 8 (.assign (.tmp 25)) E.tI16)]),
   (rg [(oQ 26 (.move (.tmp 1)) E.tB),
    (oQ 27 (.move (.tmp 8)) E.tI16),
    (oQ 28 (.call { callee := .value (.func E.wI16), args := #[(.tmp 26), (.tmp 27)], argTypes := #[E.tB, E.tI16] }) E.tB),
    (oQ 1 (.assign (.tmp 28)) E.tB)])]),
  (rg [(oQ 29 (.move (.tmp 1)) E.tB),
   (oQ 4 (.assign (.tmp 29)) E.tB)]),
  .ret])
def c_crkRead (E : Env) (C : CK) : Code :=
 (sq [(rg [(oQ 6 (.assign (.const .nilIface)) E.tErr)]),
  (rg [(oQ 13 (.move (.tmp 0)) C.TP),
   (oQ 14 (.call { callee := .value (.func C.FD), args := #[(.tmp 13)], argTypes := #[C.TP] }) 0)]),
  (rg [(oQ 15 (.move (.tmp 1)) E.tB),
   (oQ 16 (.build E.tRd #[(0, (.tmp 15))]) E.tRd),
   (oQ 7 (.alloc E.tRd) 0),
   ⟨none, .store E.tRd (.tmp 7) (.tmp 16), 0, "", #[], none⟩]),
  (rg [(oQ 17 (.move (.tmp 0)) C.TP),
   (oQ 18 (.call { callee := .value (.func E.rI16), args := #[(.tmp 7)], argTypes := #[E.tRd] }) E.tI16),
   (oQ 19 (.nilCheck (.tmp 17)) 0),
   (oQ 20 (.fieldAddr C.TU (.tmp 19) 0) 0),
   ⟨none, .store E.tI16 (.tmp 20) (.tmp 18), 0, "", #[], none⟩]),
  (rg [(oQ 21 (.move (.tmp 0)) C.TP),
   (oQ 22 (.nilCheck (.tmp 21)) 0),
   (oQ 23 (.fieldAddr C.TU (.tmp 22) 0) 0),
   (oQ 24 (.load E.tI16 (.tmp 23)) E.tI16),
   (oQ 8 (.assign (.tmp 24)) E.tI16)]),
  (rg [(oQ 25 (.move (.tmp 8)) E.tI16)]),
  (rg [(oQ 26 (.move (.tmp 0)) C.TP),
   (oQ 9 (.assign (.tmp 26)) C.TP)]),
  (sq [(rg [(oQ 10 (.assign (.const (.int .i16 0))) C.TK)]),
   (sq [(rg [(oQ 27 (.call { callee := .value (.func E.rI16), args := #[(.tmp 7)], argTypes := #[E.tRd] }) E.tI16),
     (oQ 11 (.assign (.tmp 27)) E.tI16)]),
    (rg [(oQ 28 (.move (.tmp 11)) E.tI16),
     (oQ 10 (.assign (.tmp 28)) C.TK)])]),
   (rg [(oQ 29 (.move (.tmp 10)) C.TK),
    (oQ 12 (.assign (.tmp 29)) C.TK)]),
   (rg [(oQ 30 (.move (.tmp 9)) C.TP),
    (oQ 31 (.move (.tmp 12)) C.TK),
    (oQ 32 (.nilCheck (.tmp 30)) 0),
    (oQ 33 (.fieldAddr C.TU (.tmp 32) 1) 0),
    ⟨none, .store C.TK (.tmp 33) (.tmp 31), 0, "", #[], none⟩])]),
  (rg [(oQ 34 (.call { callee := .value (.func E.rComplete), args := #[(.tmp 7)], argTypes := #[E.tRd] }) E.tErr),
   (oQ 6 (.assign (.tmp 34)) E.tErr)]),
  .ret])
structure CkT (P : Program) (E : Env) (C : CK) : Prop where
 f0 : fieldOff P C.TU 0 = some 0
 f1 : fieldOff P C.TU 1 = some 1
 o16 : oneT P E.tI16 = true
 oK : oneT P C.TK = true
 dflt : Text P C.FD 1 2 #[] .skip
section
variable {P : Program} {E : Env} {T : List (Nat × List UInt8) → Prop}
theorem c_skip_ok {f : FuncId} (ht : Text P f 1 2 #[] .skip) (x : Value) (w : World) : CallsV P f #[x] w fun _ w' => w' = w := by
 refine CallsV.enter ht (by simp) ?_
 intro a hsz hdf harg
 refine vK ?_
 exact ⟨hdf, .tuple #[], by simp [results], rfl⟩
theorem c_crkApp_ok (HW : EnvW P E T) (h16 : E.wI16 ≠ 0) {C : CK} (K : CkT P E C) {f : FuncId} (ht : Text P f 2 30 #[.tmp 4] (c_crkApp E C)) {mb : Nat} {x y : Int} {w : World} (hx : Scal.i16.ok x) (hy : Scal.i16.ok y) (hc : Cells w mb 0 [.int .i16 x, .int .i16 y]) :
  CallsV P f #[.pointer (some ⟨mb, 0, none⟩), .slice none 0 0] w fun v w2 => w2.ownsRow w.heap.size E.tU8 1 v (be 2 x ++ be 2 y).length ((be 2 x ++ be 2 y).map bv) ∧ Below w.heap.size w w2 := by
 have hmb := lt_of_cell (hc 0 _ rfl)
 refine CallsV.enter ht (by simp) ?_
 intro a hsz hdf harg
 have e0 := harg 0 (.pointer (some ⟨mb, 0, none⟩)) (by simp)
 have e1 := harg 1 (.slice none 0 0) (by simp)
 unfold c_crkApp
 refine vX (rA (dn (vX (rM ?_))))
 refine r_nil (ad := ⟨mb, 0, none⟩) (by simp (disch := (try simp only [sP]); omega) only [eV, e0]) ?_
 refine rF (b := mb) (o := 0) (by simp (disch := (try simp only [sP]); omega) only [eV]) K.f0 ?_
 refine rL (b := mb) (o := 0 + 0) (v := .int .i16 x) (by simp (disch := (try simp only [sP]); omega) only [eV]) K.o16 (hc 0 _ rfl) ?_
 refine rA (dn (vX (rM (dn (vS (vX (rM ?_)))))))
 refine r_nil (ad := ⟨mb, 0, none⟩) (by simp (disch := (try simp only [sP]); omega) only [eV, e0]) ?_
 refine rF (b := mb) (o := 0) (by simp (disch := (try simp only [sP]); omega) only [eV]) K.f0 ?_
 refine rL (b := mb) (o := 0 + 0) (v := .int .i16 x) (by simp (disch := (try simp only [sP]); omega) only [eV]) K.o16 (hc 0 _ rfl) ?_
 refine rA (dn (vX (rM (rM ?_))))
 refine r_call' (args := #[.slice none 0 0, .int .i16 x]) ?_ (HW.scal .i16 h16 x w.heap.size w hx (.slice none 0 0) [] (World.ownsRow_nil _ _ _ _) (Nat.le_refl _) (by simp [Scal.wr, be_len, big])) ?_
 ·simp only [lM]
  simp (disch := (try simp only [sP]); omega) only [eV, e1]
 rintro v1 w1 ⟨hown1, hb1⟩
 refine rA (dn (vN ?_))
 generalize hG : Act.put _ (some 1) _ = G
 have hsG : G.tmps.size = 30 := by rw [← hG]; simp only [zP]; exact hsz
 have hdG : G.defers = [] := by rw [← hG]; simp only [dF]; exact hdf
 have k0 : G.eval (.tmp 0) = .pointer (some ⟨mb, 0, none⟩) := by rw [← hG]; simp (disch := (try simp only [sP]); omega) only [eV, e0]
 have k1 : G.eval (.tmp 1) = v1 := by rw [← hG]; simp (disch := (try simp only [sP]); omega) only [eV]
 clear hG
 have hc1 : Cells w1 mb 0 [.int .i16 x, .int .i16 y] := hc.below hb1 hmb
 refine vS (vX (rM ?_))
 refine r_nil (ad := ⟨mb, 0, none⟩) (by simp (disch := (try simp only [sP]); omega) only [eV, k0]) ?_
 refine rF (b := mb) (o := 0) (by simp (disch := (try simp only [sP]); omega) only [eV]) K.f1 ?_
 refine rL (b := mb) (o := 0 + 1) (v := .int .i16 y) (by simp (disch := (try simp only [sP]); omega) only [eV]) K.oK (hc1 1 _ rfl) ?_
 refine rA (dn (vX (rM (rA (dn (vX (rM (rM ?_))))))))
 refine r_call' (args := #[v1, .int .i16 y]) ?_ (HW.scal .i16 h16 y w.heap.size w1 hy v1 ([] ++ Scal.i16.wr x) hown1 hb1.size (by simp [Scal.wr, be_len, big])) ?_
 ·simp only [lM]
  simp (disch := (try simp only [sP]); omega) only [eV, k1]
 rintro v2 w2 ⟨hown2, hb2⟩
 refine rA (dn (vN (vX (rM (rA (dn (vS (vT ?_))))))))
 exact ⟨by simp only [dF]; exact hdG, v2, rO (by simp (disch := (try simp only [sP]); omega) only [eV]), hown2, hb1.trans hb2⟩
set_option maxHeartbeats 1000000 in
theorem c_crkRead_ok (H : EnvR P E T) (HX : EnvRX P E) (h16 : E.rI16 ≠ 0) {C : CK} (K : CkT P E C) {f : FuncId} (ht : Text P f 3 35 #[.tmp 6] (c_crkRead E C)) {mb sb : Nat} {x0 y0 ev sv : Value} {l : List UInt8} {w : World}
  (hc : Cells w mb 0 [x0, y0]) (hf : ∀ i, i < 2 → Free w mb i) (hs : SrcV w sb sv l) (hsb : sb < w.heap.size) (hl : l.length ≤ big) (he : w.cell? ⟨E.vErr, 0, none⟩ = some ev) (hm2 : mb ≠ sb) (hm3 : mb ≠ E.vErr) :
  CallsV P f #[.pointer (some ⟨mb, 0, none⟩), sv, .bool false] w fun v w' => v = (if (crkSt l).2 then ev else .nilIface) ∧ Eff (fun k _ => k = mb) w w' ∧ Cells w' mb 0 [.int .i16 (crkA l), .int .i16 (crkB l)] := by
 have hmb : mb < w.heap.size := (hf 0 (by omega)).lt
 refine CallsV.enter ht (by simp) ?_
 intro a hsz hdf harg
 have e0 := harg 0 (.pointer (some ⟨mb, 0, none⟩)) (by simp)
 have e1 := harg 1 sv (by simp)
 obtain ⟨zr, hzr, hzrc⟩ := lays_zero HX.rd
 have hsv1 := hs.one
 have hsvc : sv.cells = #[sv] := by
  obtain ⟨ad, cap, rfl, _⟩ := hs.form
  rfl
 unfold c_crkRead
 refine vX (rA (dn (vX (rM ?_))))
 refine r_call' (args := #[.pointer (some ⟨mb, 0, none⟩)]) ?_ (c_skip_ok K.dflt _ w) ?_
 ·simp only [lM]
  simp (disch := (try simp only [sP]); omega) only [eV, e0]
 rintro v1 w1 rfl
 refine dn (vX (rM ?_))
 generalize hA : Act.put _ (some 15) _ = A
 have hfA : Fr (fun k => k = 0 ∨ k = 1) a A := by
  subst hA
  exact ((((Fr.refl _ a).put _ (by omega)).put _ (by omega)).put _ (by omega)).put _ (by omega)
 have hAv : A.eval (.tmp 15) = sv := by subst hA; simp (disch := (try simp only [sP]); omega) only [eV, e1]
 have hsA := hfA.size
 clear hA
 refine r_build (cells := #[sv, .bool false]) HX.rd ?_ ?_
 ·simp [Instr.fill, hAv, hsvc]
 refine r_alloc hzr ?_
 have hfree : ∀ i, i < [sv, Value.bool false].length → Free (w1.alloc (.cells zr.cells E.tRd)) w1.heap.size (0 + i) := by
  intro i hi
  rw [Nat.zero_add]
  exact free_new w1 _ _ (by rw [hzrc]; simpa using hi)
 refine r_storeAgg (b := w1.heap.size) (o := 0) (cs := [sv, .bool false]) (by simp (disch := (try simp only [sP]); omega) only [eV]) (by simp (disch := (try simp only [sP]); omega) only [eV]) (by intro v hv; simp only [List.mem_cons, List.not_mem_nil, or_false] at hv; rcases hv with rfl | rfl; exact hsv1; rfl) HX.rdA hfree ?_
 refine dn ?_
 have hcb : Cells (setCells (w1.alloc (.cells zr.cells E.tRd)) w1.heap.size 0 [sv, .bool false]) w1.heap.size 0 [sv, .bool false] :=
  fun i v hv => setCells_cell _ _ _ _ (fun j hj => (hfree j hj).1) i v hv
 have hE2 := setCells_eff w1.heap.size [sv, .bool false] (w1.alloc (.cells zr.cells E.tRd)) 0
 have hb2 : Below w1.heap.size w1 (setCells (w1.alloc (.cells zr.cells E.tRd)) w1.heap.size 0 [sv, .bool false]) :=
  ((Below.refl w1.heap.size w1).alloc (o := .cells _ _) (Nat.le_refl _)).trans (hE2.below (by simp) (by rintro k i hk ⟨rfl, _, _⟩; omega))
 have hz2 : w1.heap.size < (setCells (w1.alloc (.cells zr.cells E.tRd)) w1.heap.size 0 [sv, .bool false]).heap.size := by
  have := hE2.size
  simp at this
  omega
 have hfr2 : ∀ i, i < 2 → Free (setCells (w1.alloc (.cells zr.cells E.tRd)) w1.heap.size 0 [sv, .bool false]) w1.heap.size i := fun i hi => by
  have := (hfree i (by simpa using hi)).eff hE2
  rwa [Nat.zero_add] at this
 generalize setCells (w1.alloc (.cells zr.cells E.tRd)) w1.heap.size 0 [sv, .bool false] = w2 at *
 have hE02 : Eff (fun k _ => k = mb) w1 w2 := Eff.of_below hb2
 generalize hrb : w1.heap.size = rb at *
 generalize ha2 : Act.put _ (some 7) _ = a2
 have hf2 : Fr (fun k => k = 0 ∨ k = 1) a a2 := by
  subst ha2
  exact (hfA.put _ (by omega)).put _ (by omega)
 have h27 : a2.eval (.tmp 7) = .pointer (some ⟨rb, 0, none⟩) := by subst ha2; simp (disch := (try simp only [sP]); omega) only [eV]
 have h20 : a2.eval (.tmp 0) = .pointer (some ⟨mb, 0, none⟩) := by rw [hf2.slot 0 (by omega)]; exact e0
 have hs2z : a2.tmps.size = 35 := by rw [hf2.size]; exact hsz
 have hd2 : a2.defers = [] := by rw [hf2.defers]; exact hdf
 clear ha2
 have hrd : RdS w2 rb sb (l, false) := ⟨by omega, by omega, ⟨sv, hcb, hs.heap (hb2.block sb (by omega))⟩, hfr2 0 (by omega), hfr2 1 (by omega), hl⟩
 have hevlt : E.vErr < rb := by rw [← hrb]; exact lt_of_cell he
 have hev2 : w2.cell? ⟨E.vErr, 0, none⟩ = some ev := hE02.cellSome he (by rintro h; exact hm3 h.symm)
 have hfm2 : ∀ i, i < 2 → Free w2 mb (0 + i) := fun i hi => by rw [Nat.zero_add]; exact (hf i hi).eff hE02
 refine vX (rM ?_)
 refine r_call' (args := #[.pointer (some ⟨rb, 0, none⟩)]) ?_ (H.scal .i16 h16 rb sb (l, false) w2 hrd) ?_
 ·simp only [lM]
  simp (disch := (try simp only [sP]); omega) only [eV, h27]
 rintro v w3 ⟨⟨hv3, hvo⟩, hr3, hE3⟩
 have hv3' : v = .int .i16 (crkA l) := hv3
 subst hv3'
 refine r_nil (ad := ⟨mb, 0, none⟩) (by simp (disch := (try simp only [sP]); omega) only [eV, h20]) ?_
 refine rF (b := mb) (o := 0) (by simp (disch := (try simp only [sP]); omega) only [eV]) K.f0 ?_
 have hf3 : Free w3 mb (0 + 0) := (hfm2 0 (by omega)).eff hE3
 refine r_store (b := mb) (o := 0 + 0) (v := .int .i16 (crkA l)) (by simp (disch := (try simp only [sP]); omega) only [eV]) (by simp (disch := (try simp only [sP]); omega) only [eV]) rfl K.o16 hf3 ?_
 refine dn ?_
 have hE4 : Eff (fun k i => k = mb ∧ i < 1) w3 (w3.setCell ⟨mb, 0 + 0, none⟩ (.int .i16 (crkA l))) := (Eff.refl _ w3).setCell _ _ _ (fun _ => ⟨rfl, by omega⟩)
 have hc4 : (w3.setCell ⟨mb, 0 + 0, none⟩ (.int .i16 (crkA l))).cell? ⟨mb, 0 + 0, none⟩ = some (.int .i16 (crkA l)) := cell_setCell_same _ hf3.1
 have hr4 : RdS (w3.setCell ⟨mb, 0 + 0, none⟩ (.int .i16 (crkA l))) rb sb (rdN 2 (l, false)).2 := (show RdS w3 rb sb (rdN 2 (l, false)).2 from hr3).keep hE4 (by rintro i ⟨h, _⟩; omega) (by rintro i ⟨h, _⟩; exact hm2 h.symm)
 have hE24 : Eff (fun k i => RM rb k i ∨ (k = mb ∧ i < 1)) w2 (w3.setCell ⟨mb, 0 + 0, none⟩ (.int .i16 (crkA l))) := (hE3.mono (fun k i _ h => .inl h)).trans (hE4.mono (fun k i _ h => .inr h))
 have hf14 : Free (w3.setCell ⟨mb, 0 + 0, none⟩ (.int .i16 (crkA l))) mb (0 + 1) := (hfm2 1 (by omega)).eff hE24
 generalize w3.setCell ⟨mb, 0 + 0, none⟩ (.int .i16 (crkA l)) = w4 at *
 refine vX (rM ?_)
 refine r_nil (ad := ⟨mb, 0, none⟩) (by simp (disch := (try simp only [sP]); omega) only [eV, h20]) ?_
 refine rF (b := mb) (o := 0) (by simp (disch := (try simp only [sP]); omega) only [eV]) K.f0 ?_
 refine rL (b := mb) (o := 0 + 0) (v := .int .i16 (crkA l)) (by simp (disch := (try simp only [sP]); omega) only [eV]) K.o16 hc4 ?_
 refine rA (dn (vX (rM (dn (vX (rM (rA (dn ?_))))))))
 refine vS (vX (rA (dn (vS (vX ?_)))))
 refine r_call' (args := #[.pointer (some ⟨rb, 0, none⟩)]) ?_ (H.scal .i16 h16 rb sb (rdN 2 (l, false)).2 w4 hr4) ?_
 ·simp only [lM]
  simp (disch := (try simp only [sP]); omega) only [eV, h27]
 rintro v w5 ⟨⟨hv5, _⟩, hr5, hE5⟩
 have hv5' : v = .int .i16 (crkB l) := hv5
 subst hv5'
 refine rA (dn (vX (rM (rA (dn (vN (vX (rM ?_))))))))
 refine rA (dn (vX (rM (rM ?_))))
 refine r_nil (ad := ⟨mb, 0, none⟩) (by simp (disch := (try simp only [sP]); omega) only [eV, h20]) ?_
 refine rF (b := mb) (o := 0) (by simp (disch := (try simp only [sP]); omega) only [eV]) K.f1 ?_
 have hf6 : Free w5 mb (0 + 1) := hf14.eff hE5
 refine r_store (b := mb) (o := 0 + 1) (v := .int .i16 (crkB l)) (by simp (disch := (try simp only [sP]); omega) only [eV]) (by simp (disch := (try simp only [sP]); omega) only [eV]) rfl K.oK hf6 ?_
 refine dn (vN ?_)
 have hE6 : Eff (fun k i => k = mb ∧ i = 1) w5 (w5.setCell ⟨mb, 0 + 1, none⟩ (.int .i16 (crkB l))) := (Eff.refl _ w5).setCell _ _ _ (fun _ => ⟨rfl, by omega⟩)
 have hc6b : (w5.setCell ⟨mb, 0 + 1, none⟩ (.int .i16 (crkB l))).cell? ⟨mb, 0 + 1, none⟩ = some (.int .i16 (crkB l)) := cell_setCell_same _ hf6.1
 have hc5 : w5.cell? ⟨mb, 0 + 0, none⟩ = some (.int .i16 (crkA l)) := hE5.cellSome hc4 (by rintro ⟨h, _⟩; omega)
 have hc6a := hE6.cellSome hc5 (by rintro ⟨_, h⟩; omega)
 have hr6 : RdS (w5.setCell ⟨mb, 0 + 1, none⟩ (.int .i16 (crkB l))) rb sb (crkSt l) := (show RdS w5 rb sb (crkSt l) from hr5).keep hE6 (by rintro i ⟨h, _⟩; omega) (by rintro i ⟨h, _⟩; exact hm2 h.symm)
 have hz4 := hE24.size
 have hz5 := hE5.size
 have hE06 : Eff (fun k _ => k = mb) w1 (w5.setCell ⟨mb, 0 + 1, none⟩ (.int .i16 (crkB l))) := by
  refine ((hE02.trans' hE24 ?_).trans' hE5 ?_).trans' hE6 ?_
  ·rintro k i hk (⟨h, _⟩ | ⟨h, _⟩)
   ·omega
   ·exact h
  ·rintro k i hk ⟨h, _⟩
   omega
  ·rintro k i hk ⟨h, _⟩
   exact h
 have hev6 := hE06.cellSome he (by rintro h; exact hm3 h.symm)
 generalize w5.setCell ⟨mb, 0 + 1, none⟩ (.int .i16 (crkB l)) = w6 at *
 refine vX ?_
 refine r_call' (args := #[.pointer (some ⟨rb, 0, none⟩)]) ?_ (H.complete rb sb (crkSt l) w6 ev hr6 hev6) ?_
 ·simp only [lM]
  simp (disch := (try simp only [sP]); omega) only [eV, h27]
 rintro v7 w7 ⟨rfl, rfl⟩
 refine rA (dn (vS (vT ?_)))
 refine ⟨by simp only [dF]; exact hd2, _, rO (by simp (disch := (try simp only [sP]); omega) only [eV]), rfl, hE06, ?_⟩
 intro i u hu
 match i, hu with
 | 0, hu => simp only [List.getElem?_cons_zero, Option.some.injEq] at hu; subst hu; exact hc6a
 | 1, hu => simp only [List.getElem?_cons_succ, List.getElem?_cons_zero, Option.some.injEq] at hu; subst hu; exact hc6b
 | i + 2, hu => simp at hu
end
end Go.Km
namespace Go.Km
open Go Go.RowKit
attribute [local irreducible] vc rO_ runG runS runD
def c_anyK (E : Env) (A : ML) : Code :=
 (sq [(rg [(oQ 2 (.assign (.const (.bool false))) E.tO)]),
  (sq [(rg [(oQ 9 (.move (.tmp 0)) E.tB),
    (oQ 10 (.call { callee := .builtin .len, args := #[(.tmp 9)], argTypes := #[E.tB] }) E.tI),
    (oQ 11 (.binOp .gtr E.tI (.tmp 10) (.const (.int .i64 2147483647)) E.tI) E.tO)]),
   (.cond (.tmp 11)
    (sq [(rg [(oQ 2 (.assign (.const (.bool true))) E.tO)]),
     .ret])
    .skip)]),
  (sq [(rg [(oQ 12 (.move (.tmp 0)) E.tB),
    (oQ 13 (.call { callee := .builtin .len, args := #[(.tmp 12)], argTypes := #[E.tB] }) E.tI),
    (oQ 14 (.binOp .gtr E.tI (.tmp 13) (.const (.int .i64 1000)) E.tI) E.tO)]),
   (.cond (.tmp 14)
    (sq [(rg [(oQ 2 (.assign (.const (.bool true))) E.tO)]),
     .ret])
    .skip)]),
  (rg [(oQ 16 (.call { callee := .value (.func A.spec), args := #[], argTypes := #[] }) E.tMsg),
   (oQ 17 (.build E.tT #[]) E.tT),
   (oQ 18 (.call { callee := .value (.func E.sKept), args := #[(.tmp 16), (.const (.int .i64 0)), (.tmp 17)], argTypes := #[E.tMsg, E.tI, E.tT] }) E.tB),
   (oQ 19 (.call { callee := .value (.func A.again), args := #[(.tmp 18)], argTypes := #[E.tB] }) A.tTup),
   (oQ 15 (.move (.tmp 19)) A.tTup),
   (oQ 20 (.extract (.tmp 15) 0) E.tB),
   (oQ 21 (.extract (.tmp 15) 1) E.tO),
   (oQ 3 (.assign (.tmp 20)) E.tB),
   (oQ 4 (.assign (.tmp 21)) E.tO)]),
  (rg [(oQ 23 (.move (.tmp 0)) E.tB),
   (oQ 24 (.call { callee := .value (.func A.again), args := #[(.tmp 23)], argTypes := #[E.tB] }) A.tTup),
   (oQ 22 (.move (.tmp 24)) A.tTup),
   (oQ 25 (.extract (.tmp 22) 0) E.tB),
   (oQ 26 (.extract (.tmp 22) 1) E.tO),
   (oQ 5 (.assign (.tmp 25)) E.tB),
   (oQ 6 (.assign (.tmp 26)) E.tO)]),
  (sq [(rg [(oQ 27 (.move (.tmp 4)) E.tO),
    (oQ 28 (.unOp .not E.tO (.tmp 27)) E.tO),
    (oQ 29 (.move (.tmp 28)) E.tO),
    ⟨some 30, .move (.tmp 6), E.tO, "", #[], some (2, false)⟩,
    ⟨some 31, .unOp .not E.tO (.tmp 30), E.tO, "", #[], some (2, false)⟩,
    (oQ 32 (.pick (.tmp 29) (.const (.bool true)) (.tmp 31)) E.tO)]),
   (.cond (.tmp 32)
    (sq [(rg [(oQ 33 (.move (.tmp 4)) E.tO),
      (oQ 2 (.assign (.tmp 33)) E.tO)]),
     .ret])
    .skip)]),
  (rg [(oQ 35 (.move (.tmp 5)) E.tB),
   (oQ 36 (.call { callee := .value (.func A.again), args := #[(.tmp 35)], argTypes := #[E.tB] }) A.tTup),
   (oQ 34 (.move (.tmp 36)) A.tTup),
   (oQ 37 (.extract (.tmp 34) 0) E.tB),
   (oQ 38 (.extract (.tmp 34) 1) E.tO),
   (oQ 7 (.assign (.tmp 37)) E.tB),
   (oQ 8 (.assign (.tmp 38)) E.tO)]),
  (rg [(oQ 39 (.move (.tmp 8)) E.tO),
   (oQ 40 (.move (.tmp 39)) E.tO),
   ⟨some 41, .move (.tmp 5), E.tB, "", #[], some (1, true)⟩,
   ⟨some 42, .move (.tmp 7), E.tB, "", #[], some (1, true)⟩,
   ⟨some 43, .call { callee := .value (.func E.sSame), args := #[(.tmp 41), (.tmp 42)], argTypes := #[E.tB, E.tB] }, E.tO, "", #[], some (1, true)⟩,
   (oQ 44 (.pick (.tmp 40) (.tmp 43) (.const (.bool false))) E.tO),
   (oQ 2 (.assign (.tmp 44)) E.tO)]),
  .ret])
def crkBack (l : List UInt8) : Option (List UInt8) := if l.length < 4 then none else some (l.take 4)
def CrkC (P : Program) (E : Env) (f : FuncId) : Prop :=
 ∀ (l : List UInt8) (sv ev : Value) (W : World), BytesIn P E W sv l → l.length ≤ big → W.cell? ⟨E.vErr, 0, none⟩ = some ev → (∃ u z, ev = .iface u z) → CallsV P f #[sv] W fun r w' => BackV E (crkBack l) W w' r
section
variable {P : Program} {E : Env} {T : List (Nat × List UInt8) → Prop}
set_option maxHeartbeats 1000000 in
theorem c_crkAgain_ok (HW : EnvW P E T) (h16w : E.wI16 ≠ 0) (H : EnvR P E T) (HX : EnvRX P E) (h16 : E.rI16 ≠ 0) (HB : rowB P E.tB E.tU8 1 = true) (oE : ifaceT P E.tErr = true) {C : CK} (K : CkT P E C) {m : Msg} (hTU : m.TU = C.TU) {N : MK} {RF : FuncId} {np nt npw ntw : Nat}
  (ht : Text P N.again np nt #[.tmp 2, .tmp 3] (c_againK E m N)) (hn : 11 ≤ nt) (hN : NewKC P N.newK m) (hw : Text P N.rd npw ntw #[.tmp 4] (c_rfw E m RF)) (hnw : 8 ≤ ntw) (hrf : Text P RF 3 35 #[.tmp 6] (c_crkRead E C)) (ha : Text P N.app 2 30 #[.tmp 4] (c_crkApp E C))
  (hfs : m.fs.dz = [.int .i16 0]) (hz : (zeroT P m.TU).map (·.cells.size) = some 2) (hagg : aggT P m.TU = some 2) : CrkC P E N.again := by
 intro l sv ev W hin hl he hev
 have hsrc := hin.2
 obtain ⟨z, hz0, hzl⟩ : ∃ z, zeroT P m.TU = some z ∧ z.cells.size = 2 := by
  cases h : zeroT P m.TU with
  | none => rw [h] at hz; cases hz
  | some z => rw [h] at hz; exact ⟨z, rfl, by simpa using hz⟩
 refine CallsV.enter ht (by simp; omega) ?_
 intro a hsz hdf harg
 have e0 := harg 0 sv (by simp)
 have hevlt : E.vErr < W.heap.size := lt_of_cell he
 unfold c_againK
 refine vX (rA (rA (dn (vX ?_))))
 refine r_call' (args := #[]) (by simp) (hN W) ?_
 rintro v w1 ⟨rfl, hb1⟩
 rw [hfs]
 refine r_alloc hz0 ?_
 have hb2 : Below w1.heap.size w1 (w1.alloc (.cells z.cells m.TU)) := (Below.refl w1.heap.size w1).alloc (o := .cells _ _) (Nat.le_refl _)
 have hf2 : ∀ i, i < 2 → Free (w1.alloc (.cells z.cells m.TU)) w1.heap.size (0 + i) := fun i hi => by rw [Nat.zero_add]; exact free_new w1 _ m.TU (by omega)
 have hz2 : w1.heap.size < (w1.alloc (.cells z.cells m.TU)).heap.size := by simp
 generalize w1.alloc (.cells z.cells m.TU) = w2 at *
 refine r_storeAgg (b := w1.heap.size) (o := 0) (cs := [.int .i16 0, .int .i16 0]) (by simp (disch := (try simp only [sP]); omega) only [eV]) (by simp (disch := (try simp only [sP]); omega) only [eV]) (by
  intro v hv
  simp only [List.mem_cons, List.not_mem_nil, or_false] at hv
  rcases hv with rfl | rfl <;> rfl) hagg (fun i hi => hf2 i (by simpa using hi)) ?_
 refine dn ?_
 have hE := setCells_eff w1.heap.size [.int .i16 0, .int .i16 0] w2 0
 have hc3 : Cells (setCells w2 w1.heap.size 0 [.int .i16 0, .int .i16 0]) w1.heap.size 0 [.int .i16 0, .int .i16 0] := fun j u hu => setCells_cell _ _ _ _ (fun j hj => (hf2 j (by simpa using hj)).1) j u hu
 have hf3 : ∀ i, i < 2 → Free (setCells w2 w1.heap.size 0 [.int .i16 0, .int .i16 0]) w1.heap.size i := fun i hi => by have := (hf2 i hi).eff hE; rwa [Nat.zero_add] at this
 have hb13 : Below w1.heap.size w1 (setCells w2 w1.heap.size 0 [.int .i16 0, .int .i16 0]) := hb2.trans (hE.below (Nat.le_of_lt hz2) (by rintro k i hk ⟨h, _⟩; omega))
 have hz3 : w1.heap.size < (setCells w2 w1.heap.size 0 [.int .i16 0, .int .i16 0]).heap.size := Nat.lt_of_lt_of_le hz2 hE.size
 generalize setCells w2 w1.heap.size 0 [.int .i16 0, .int .i16 0] = w3 at *
 have hz1 := hb1.size
 have hb03 : Below W.heap.size W w3 := hb1.trans (hb13.mono hz1)
 generalize hmb : w1.heap.size = mb at *
 generalize ha1 : Act.put _ (some 4) _ = a1
 have hf1 : Fr (fun k => k = 0) a a1 := by
  subst ha1
  exact ((((Fr.refl _ a).put _ (by omega)).put _ (by omega)).put _ (by omega)).put _ (by omega)
 have h4 : a1.eval (.tmp 4) = .pointer (some ⟨mb, 0, none⟩) := by subst ha1; simp (disch := (try simp only [sP]); omega) only [eV]
 have h0 : a1.eval (.tmp 0) = sv := by rw [hf1.slot 0 rfl]; exact e0
 have hsz1 := hf1.size
 have hdf1 := hf1.defers
 clear ha1
 refine vS (vX (rM ?_))
 refine r_append (U := w3.heap.size) (v := .slice none 0 0) (n := 0) (xs := []) (u := sv) (m := l.length) (news := l.map bv) HB rfl (by simp (disch := (try simp only [sP]); omega) only [eV, h0]) (World.ownsRow_nil _ _ _ _) (Nat.le_refl _) (hsrc _ hb03) (by omega) ?_
 intro v3 w4 hown3 hb4
 rw [Nat.zero_add, List.nil_append] at hown3
 have hb04 : Below W.heap.size W w4 := hb03.trans (hb4.mono (by omega))
 have hev4 : w4.cell? ⟨E.vErr, 0, none⟩ = some ev := by rw [hb04.cell (p := ⟨E.vErr, 0, none⟩) hevlt]; exact he
 have hz4 := hb4.size
 obtain ⟨sb, hsv, hsb, hsbc⟩ := own_src (d := E.vErr) hown3 (by omega) (by omega)
 have hc4 : Cells w4 mb 0 [.int .i16 0, .int .i16 0] := hc3.below hb4 hz3
 have hf4 : ∀ i, i < 2 → Free w4 mb i := fun i hi => (hf3 i hi).eff (Eff.of_below (M := fun _ _ => False) hb4)
 have hrw : CallsV P N.rd #[.pointer (some ⟨mb, 0, none⟩), v3] w4 fun v w' => v = (if (crkSt l).2 then ev else .nilIface) ∧ Eff (fun k _ => k = mb) w4 w' ∧ Cells w' mb 0 [.int .i16 (crkA l), .int .i16 (crkB l)] := by
  refine CallsV.enter hw (by simp; omega) ?_
  intro a hsz hdf harg
  have e0 := harg 0 (.pointer (some ⟨mb, 0, none⟩)) (by simp)
  have e1 := harg 1 v3 (by simp)
  unfold c_rfw
  refine vX (rA (dn (vX (rM (rM ?_)))))
  refine r_call' (args := #[.pointer (some ⟨mb, 0, none⟩), v3, .bool false]) ?_ (c_crkRead_ok H HX h16 K hrf hc4 hf4 hsv hsb hl hev4 (by omega) (by omega)) ?_
  ·simp only [lM]
   simp (disch := (try simp only [sP]); omega) only [eV, e0, e1]
  intro v w' hS
  refine rA (dn (vS (vT ?_)))
  exact ⟨by simp only [dF]; exact hdf, v, rO (by simp (disch := (try simp only [sP]); omega) only [eV]), hS⟩
 refine r_call' (args := #[.pointer (some ⟨mb, 0, none⟩), v3]) ?_ hrw ?_
 ·simp only [lM]
  simp (disch := (try simp only [sP]); omega) only [eV, h4]
 rintro x w5 ⟨hxv, hE5, hc5⟩
 have hbw5 : Below W.heap.size W w5 := hb04.trans (hE5.below (by omega) (by rintro k i hk rfl; omega))
 have hz5 := hE5.size
 refine r_neqNil (v := x) oE (by simp (disch := (try simp only [sP]); omega) only [eV]) (by rw [hxv]; split; exact .inr hev; exact .inl rfl) ?_
 refine dn ?_
 have hcv : isErr x = (crkSt l).2 := by
  rw [hxv]
  obtain ⟨u, z, rfl⟩ := hev
  cases (crkSt l).2 <;> rfl
 rw [hcv]
 refine vS (vC (t := (crkSt l).2) (by simp (disch := (try simp only [sP]); omega) only [eV]) ?_ ?_)
 ·intro h
  have h4' : l.length < 4 := by rw [crk_bad] at h; simpa using h
  refine vX (rA (rA (dn (vS (vT ?_)))))
  refine ⟨by simp only [dF]; rw [hdf1]; exact hdf, .tuple #[.slice none 0 0, .bool false], results_two (by simp (disch := (try simp only [sP]); omega) only [eV]) (by simp (disch := (try simp only [sP]); omega) only [eV]), hbw5, ?_⟩
  simp only [crkBack, h4', if_true]
 ·intro h
  have h4' : ¬ l.length < 4 := by rw [crk_bad] at h; simpa using h
  refine vK (vN (vX ?_))
  refine r_call' (args := #[.pointer (some ⟨mb, 0, none⟩), .slice none 0 0]) ?_ (c_crkApp_ok HW h16w K ha (sgn2_rng (l, false)) (sgn2_rng (rdN 2 (l, false)).2) hc5) ?_
  ·simp only [lM]
   simp (disch := (try simp only [sP]); omega) only [eV, h4]
  rintro y w6 ⟨hy, hb6⟩
  refine rA (rA (dn (vS (vT ?_))))
  refine ⟨by simp only [dF]; rw [hdf1]; exact hdf, .tuple #[y, .bool true], results_two (by simp (disch := (try simp only [sP]); omega) only [eV]) (by simp (disch := (try simp only [sP]); omega) only [eV]), hbw5.trans (hb6.mono (by omega)), ?_⟩
  have hy' : w6.ownsRow w5.heap.size E.tU8 1 y (l.take 4).length ((l.take 4).map bv) := by
   rw [← crk_out (by omega)]
   exact hy
  simp only [crkBack, h4', if_false]
  exact ⟨y, rfl, own_mono2 hy' (by omega)⟩
abbrev BackR (E : Env) (W w' : World) (x : Value) (ok : Bool) : Option (List UInt8) → Prop
 | none => ok = false
 | some a => ok = true ∧ w'.ownsRow W.heap.size E.tU8 1 x a.length (a.map bv)
theorem backV_form {o : Option (List UInt8)} {W w' : World} {r : Value} (h : BackV E o W w' r) : ∃ x ok, r = .tuple #[x, .bool ok] ∧ Below W.heap.size W w' ∧ BackR E W w' x ok o := by
 obtain ⟨hb, h⟩ := h
 cases o with
 | none => exact ⟨_, _, h, hb, rfl⟩
 | some a => obtain ⟨x, h1, h2⟩ := h; exact ⟨x, true, h1, hb, rfl, h2⟩
set_option maxHeartbeats 2000000 in
theorem c_anyK_ok {A : ML} {fs : SFs} {flex : Int} (L : LawK0 P E A fs flex) (hg : fs.good = true) (hln : fs.len ≤ 65536) (hp0 : fs.part 0 (decide (flex ≥ 0) && decide ((0 : Int) ≥ flex)) Tr.zero = [0, 0]) (hAg : CrkC P E A.again) {np nt : Nat} (ht : Text P A.law np nt #[.tmp 2] (c_anyK E A)) (hn : 45 ≤ nt)
  {sv ev : Value} {l : List UInt8} {W : World} (hin : BytesIn P E W sv l) (hlen : l.length ≤ 9223372036854775807) (he : W.cell? ⟨E.vErr, 0, none⟩ = some ev) (hev : ∃ u z, ev = .iface u z) : CallsV P A.law #[sv] W fun v w' => v = .bool true ∧ Below W.heap.size W w' := by
 have hevlt := lt_of_cell he
 have H := L.se
 have HB := H.row
 obtain ⟨ad, cap, hsv⟩ := hin.1
 refine CallsV.enter ht (by simp; omega) ?_
 intro a hsz hdf harg
 have e0 := harg 0 sv (by simp)
 unfold c_anyK
 refine vX (rA (dn (vS (vX (rM ?_)))))
 refine r_len (ad := ad) (n := l.length) (c := cap) (rB HB) (by simp (disch := (try simp only [sP]); omega) only [eV, e0, hsv]) ?_
 refine r_gtr (k := .i64) (m := (l.length : Int)) (n := 2147483647) (by simp (disch := (try simp only [sP]); omega) only [eV]) rfl ?_
 refine dn ?_
 refine vS (vC (t := decide ((l.length : Int) > 2147483647)) (by simp (disch := (try simp only [sP]); omega) only [eV]) ?_ ?_)
 ·intro h
  refine vX (rA (dn (vS (vT ?_))))
  exact ⟨by simp only [dF]; exact hdf, .bool true, rO (by simp (disch := (try simp only [sP]); omega) only [eV]), rfl, Below.refl _ _⟩
 intro h1
 refine vK (vN (vS (vX (rM ?_))))
 refine r_len (ad := ad) (n := l.length) (c := cap) (rB HB) (by simp (disch := (try simp only [sP]); omega) only [eV, e0, hsv]) ?_
 refine r_gtr (k := .i64) (m := (l.length : Int)) (n := 1000) (by simp (disch := (try simp only [sP]); omega) only [eV]) rfl ?_
 refine dn ?_
 refine vS (vC (t := decide ((l.length : Int) > 1000)) (by simp (disch := (try simp only [sP]); omega) only [eV]) ?_ ?_)
 ·intro h
  refine vX (rA (dn (vS (vT ?_))))
  exact ⟨by simp only [dF]; exact hdf, .bool true, rO (by simp (disch := (try simp only [sP]); omega) only [eV]), rfl, Below.refl _ _⟩
 intro h2
 have hl1000 : l.length ≤ 1000 := by
  have : ¬ ((l.length : Int) > 1000) := by simpa using h2
  omega
 have hbig : l.length ≤ big := by unfold big; omega
 refine vK (vN ?_)
 generalize hG : Act.put _ (some 14) _ = G
 have hsG : G.tmps.size = nt := by rw [← hG]; simp only [zP]; exact hsz
 have hdG : G.defers = [] := by rw [← hG]; simp only [dF]; exact hdf
 have k0 : G.eval (.tmp 0) = sv := by rw [← hG]; simp (disch := (try simp only [sP]); omega) only [eV, e0]
 clear hG
 refine vX ?_
 refine r_call' (args := #[]) (by simp) (L.spec W) ?_
 rintro v w1 ⟨mv, rfl, hsl, hb1⟩
 refine r_build (cells := #[.int .i64 0, .slice none 0 0, .bool false, .slice none 0 0, .slice none 0 0]) L.sl.tree (by simp [Instr.fill]) ?_
 refine r_call' (args := #[.agg [mv, .int .i64 flex].toArray, .int .i64 ((0 : Nat) : Int), .agg [.int .i64 0, .slice none 0 0, .bool false, .slice none 0 0, .slice none 0 0].toArray]) ?_ (c_sKept_ok (ver := 0) (t := Tr.zero) L hg hln hsl (Tr.zero_rep w1 w1.heap.size) (by rw [show ((0 : Nat) : Int) = 0 from rfl, hp0]; simp [be_len, big])) ?_
 ·simp only [lM]
  simp (disch := (try simp only [sP]); omega) only [eV]
  rfl
 rintro v2 w2 ⟨hown2, hb2⟩
 rw [show ((0 : Nat) : Int) = 0 from rfl, hp0] at hown2
 have hb02 : Below W.heap.size W w2 := hb1.trans (hb2.mono hb1.size)
 have he2 : w2.cell? ⟨E.vErr, 0, none⟩ = some ev := by rw [hb02.cell (p := ⟨E.vErr, 0, none⟩) hevlt]; exact he
 refine r_call' (args := #[v2]) ?_ (hAg (be 2 0 ++ [0, 0]) v2 ev w2 ((RowB.of_own hown2).bytesIn HB) (by simp [be_len, big]) he2 hev) ?_
 ·simp only [lM]
  simp (disch := (try simp only [sP]); omega) only [eV]
 rintro r w3 hr3
 obtain ⟨x3, ok3, rfl, hb3, hr3⟩ := backV_form hr3
 have hbk : crkBack (be 2 0 ++ [0, 0]) = some (be 2 0 ++ [0, 0]) := by decide
 rw [hbk] at hr3
 obtain ⟨rfl, _⟩ := hr3
 have hb03 : Below W.heap.size W w3 := hb02.trans (hb3.mono hb02.size)
 refine rM ?_
 refine r_extract (vs := #[x3, .bool true]) (v := x3) (by simp (disch := (try simp only [sP]); omega) only [eV]) rfl ?_
 refine r_extract (vs := #[x3, .bool true]) (v := .bool true) (by simp (disch := (try simp only [sP]); omega) only [eV]) rfl ?_
 refine rA (rA (dn ?_))
 generalize hG1 : Act.put _ (some 4) _ = G1
 have hsG1 : G1.tmps.size = nt := by rw [← hG1]; simp only [zP]; exact hsG
 have hdG1 : G1.defers = [] := by rw [← hG1]; simp only [dF]; exact hdG
 have k0 : G1.eval (.tmp 0) = sv := by rw [← hG1]; simp (disch := (try simp only [sP]); omega) only [eV, k0]
 have k4 : G1.eval (.tmp 4) = .bool true := by rw [← hG1]; simp (disch := (try simp only [sP]); omega) only [eV]
 clear hG1
 have he3 : w3.cell? ⟨E.vErr, 0, none⟩ = some ev := by rw [hb03.cell (p := ⟨E.vErr, 0, none⟩) hevlt]; exact he
 refine vX (rM ?_)
 refine r_call' (args := #[sv]) ?_ (hAg l sv ev w3 (hin.below hb03) hbig he3 hev) ?_
 ·simp only [lM]
  simp (disch := (try simp only [sP]); omega) only [eV, k0]
 rintro r w5 hr5
 obtain ⟨x, ok, rfl, hb5, hxok⟩ := backV_form hr5
 have hb05 : Below W.heap.size W w5 := hb03.trans (hb5.mono hb03.size)
 refine rM ?_
 refine r_extract (vs := #[x, .bool ok]) (v := x) (by simp (disch := (try simp only [sP]); omega) only [eV]) rfl ?_
 refine r_extract (vs := #[x, .bool ok]) (v := .bool ok) (by simp (disch := (try simp only [sP]); omega) only [eV]) rfl ?_
 refine rA (rA (dn ?_))
 generalize hG2 : Act.put _ (some 6) _ = G2
 have hsG2 : G2.tmps.size = nt := by rw [← hG2]; simp only [zP]; exact hsG1
 have hdG2 : G2.defers = [] := by rw [← hG2]; simp only [dF]; exact hdG1
 have k4 : G2.eval (.tmp 4) = .bool true := by rw [← hG2]; simp (disch := (try simp only [sP]); omega) only [eV, k4]
 have k5 : G2.eval (.tmp 5) = x := by rw [← hG2]; simp (disch := (try simp only [sP]); omega) only [eV]
 have k6 : G2.eval (.tmp 6) = .bool ok := by rw [← hG2]; simp (disch := (try simp only [sP]); omega) only [eV]
 clear hG2
 refine vS (vS (vc_runS ?_))
 refine rD rfl (wN rfl) (rM (dn (rT ?_)))
 refine rD rfl (wN rfl) (r_not (b := true) (by simp (disch := (try simp only [sP]); omega) only [eV, k4]) (dn (rT ?_)))
 refine rD rfl (wN rfl) (rM (dn (rT ?_)))
 refine rD rfl (by rw [wS (b := false) rfl rfl (by simp (disch := (try simp only [sP]); omega) only [eV, Bool.not_true])]; rfl) (rM (dn (rT ?_)))
 refine rD rfl (by rw [wS (b := false) rfl rfl (by simp (disch := (try simp only [sP]); omega) only [eV, Bool.not_true])]; rfl) (r_not (b := ok) (by simp (disch := (try simp only [sP]); omega) only [eV, k6]) (dn (rT ?_)))
 refine rD rfl (wN rfl) (r_pickF (by simp (disch := (try simp only [sP]); omega) only [eV, Bool.not_true]) (dn (rT ?_)))
 refine runS_nil ?_
 refine vS (vC (t := !ok) (by simp (disch := (try simp only [sP]); omega) only [eV]) ?_ ?_)
 ·intro h
  refine vX (rM (rA (dn (vS (vT ?_)))))
  refine ⟨by simp only [dF]; exact hdG2, .bool true, rO ?_, rfl, hb05⟩
  simp (disch := (try simp only [sP]); omega) only [eV, k4]
 intro h
 refine vK (vN ?_)
 have hok : ok = true := by simpa using h
 subst hok
 by_cases hl4 : l.length < 4
 ·rw [show crkBack l = none by simp [crkBack, hl4]] at hxok
  cases hxok
 rw [show crkBack l = some (l.take 4) by simp [crkBack, hl4]] at hxok
 have hown := hxok.2
 have hbk2 : crkBack (l.take 4) = some (l.take 4) := by
  have : ¬ (l.take 4).length < 4 := by rw [List.length_take]; omega
  simp only [crkBack, this, if_false, List.take_take, Nat.min_self]
 have htl : (l.take 4).length ≤ big := by rw [List.length_take]; omega
 generalize l.take 4 = b at *
 generalize hG3 : Act.put _ (some 32) _ = G3
 have hsG3 : G3.tmps.size = nt := by rw [← hG3]; simp only [zP]; exact hsG2
 have hdG3 : G3.defers = [] := by rw [← hG3]; simp only [dF]; exact hdG2
 have k5 : G3.eval (.tmp 5) = x := by rw [← hG3]; simp (disch := (try simp only [sP]); omega) only [eV, k5]
 clear hG3
 have he5 : w5.cell? ⟨E.vErr, 0, none⟩ = some ev := by rw [hb05.cell (p := ⟨E.vErr, 0, none⟩) hevlt]; exact he
 refine vX (rM ?_)
 refine r_call' (args := #[x]) ?_ (hAg b x ev w5 ((RowB.of_own hown).bytesIn HB) htl he5 hev) ?_
 ·simp only [lM]
  simp (disch := (try simp only [sP]); omega) only [eV, k5]
 rintro r w7 ⟨hb7, hr7⟩
 rw [hbk2] at hr7
 obtain ⟨y, rfl, hy⟩ := hr7
 refine rM ?_
 refine r_extract (vs := #[y, .bool true]) (v := y) (by simp (disch := (try simp only [sP]); omega) only [eV]) rfl ?_
 refine r_extract (vs := #[y, .bool true]) (v := .bool true) (by simp (disch := (try simp only [sP]); omega) only [eV]) rfl ?_
 refine rA (rA (dn ?_))
 generalize hG4 : Act.put _ (some 8) _ = G4
 have hsG4 : G4.tmps.size = nt := by rw [← hG4]; simp only [zP]; exact hsG3
 have hdG4 : G4.defers = [] := by rw [← hG4]; simp only [dF]; exact hdG3
 have k5 : G4.eval (.tmp 5) = x := by rw [← hG4]; simp (disch := (try simp only [sP]); omega) only [eV, k5]
 have k7 : G4.eval (.tmp 7) = y := by rw [← hG4]; simp (disch := (try simp only [sP]); omega) only [eV]
 have k8 : G4.eval (.tmp 8) = .bool true := by rw [← hG4]; simp (disch := (try simp only [sP]); omega) only [eV]
 clear hG4
 refine vS (vc_runS ?_)
 refine rD rfl (wN rfl) (rM (dn (rT ?_)))
 refine rD rfl (wN rfl) (rM (dn (rT ?_)))
 refine rD rfl (by rw [wS (b := true) rfl rfl (by simp (disch := (try simp only [sP]); omega) only [eV, k8])]; rfl) (rM (dn (rT ?_)))
 refine rD rfl (by rw [wS (b := true) rfl rfl (by simp (disch := (try simp only [sP]); omega) only [eV, k8])]; rfl) (rM (dn (rT ?_)))
 refine rD rfl (by rw [wS (b := true) rfl rfl (by simp (disch := (try simp only [sP]); omega) only [eV, k8])]; rfl) ?_
 refine r_call' (args := #[x, y]) ?_ (s_same (U := w7.heap.size) HB H.oU8 L.st.mixed L.st.same (RowB.of_own (own_below2 hown hb7)) (RowB.of_own hy) htl htl) ?_
 ·simp only [lM]
  simp (disch := (try simp only [sP]); omega) only [eV, k5, k7]
 rintro v8 w8 ⟨rfl, hb8⟩
 refine dn (rT ?_)
 refine rD rfl (wN rfl) (r_pickT (by simp (disch := (try simp only [sP]); omega) only [eV, k8]) (dn (rT ?_)))
 refine rD rfl (wN rfl) (rA (dn (rT ?_)))
 refine runS_nil ?_
 refine vS (vT ?_)
 refine ⟨by simp only [dF]; exact hdG4, .bool true, rO ?_, rfl, hb05.trans ((hb7.trans (hb8.mono hb7.size)).mono hb05.size)⟩
 simp (disch := (try simp only [sP]); omega) only [eV]
 simp
end
end Go.Km
namespace Go.Km
open Go Go.RowKit Go.ChangeShapes Go.WideShapes Go.ChangeAt
section
variable {H : Type} {enc : TypeId × Value → H} {P : Program} {E : Env}
theorem anyKRow {f : Func} {L : FuncId} {s : ChangeSpec} {apart : Bool} {tb : TypeId} (hp : f.params = #[E.tB]) (hrt : f.resultTypes = #[tb]) (hub : P.underlying tb = some .bool) (hvars : s.vars = []) (hfn : ∀ d1 : DataW H, s.fn H [d1] = { results := [.lit (.bool true)], args := [d1] })
  (hl : laidOutB P = true) (hrB : P.readableRec E.tB = true ∧ E.tB < P.types.size) (hu8 : P.underlying E.tU8 = some (.int .u8)) (hub8 : P.underlying E.tB = some (.slice E.tU8)) (hc8 : P.cellsOf E.tU8 = 1)
  {W : World} {base : Nat} {args : Array Value} {ds gs : List (DataW H)} {before : List MemPlace}
  (walk : ∀ sv l, BytesIn P E W sv l → l.length ≤ maxLen → CallsV P L #[sv] W fun v w' => v = .bool true ∧ Below W.heap.size W w')
  (hval : ∀ (j : Nat) t v, f.params[j]? = some t → args[j]? = some v → Value.okWide P W .any base t v) (hW : DataW.Whole enc P f.params.toList s.vars apart W args.toList ds gs before) :
  Calls P L args W fun e W' => ∃ v, e = .returned v ∧ s.post enc P f apart true false false W args v W' := by
 have hW' := hW
 obtain ⟨p, q, hA, hV, rfl, _, _⟩ := hW
 rw [hp] at hA hval
 obtain ⟨v1, vs1, d1, ds1, p1, q1, hargs, rfl, rfl, h1, r1⟩ := trodAll_cons hA
 obtain ⟨rfl, rfl, rfl⟩ := trodAll_nil r1
 obtain rfl : args = #[v1] := by cases args; simp_all
 obtain ⟨l, hin, hll⟩ := open_octs hub8 hu8 hc8 (hval 0 _ v1 rfl rfl) h1
 refine (walk v1 l hin hll).2.mono ?_
 rintro e W' ⟨v, rfl, rfl, hb⟩
 refine ⟨_, rfl, boolPost hW' hvars hl ?_ hb hrt hub (hfn _)⟩
 rw [hp]
 intro t ht
 simp only [List.mem_cons, List.not_mem_nil, or_false] at ht
 subst ht
 exact hrB
end
end Go.Km
