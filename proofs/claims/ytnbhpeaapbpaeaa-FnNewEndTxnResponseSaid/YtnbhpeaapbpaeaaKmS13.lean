/- spec.known -/
import Derived.Test.YtnbhpeaapbpaeaaKmS12
set_option linter.unusedSimpArgs false
set_option linter.unusedVariables false
namespace Go.Km
open Go Go.RowKit
attribute [local irreducible] vc runOps runG runS runD

theorem SFs.tags_len : ∀ fs : SFs, fs.tags.length = fs.len
  | .nil => rfl
  | .cons (.mk _ _ _ _ _ _ _ _) r => by simp [SFs.tags, SFs.len, SFs.tags_len r]
def SF.tag : SF → Int
  | .mk _ _ _ _ tag _ _ _ => tag
theorem SFs.tags_get : ∀ (fs : SFs) (i : Nat) (f : SF), fs.get i = some f → fs.tags[i]? = some f.tag
  | .nil, _, _, h => by cases h
  | .cons (.mk _ _ _ _ tag _ _ _) r, 0, f, h => by simp only [SFs.get, Option.some.injEq] at h; subst h; rfl
  | .cons (.mk _ _ _ _ tag _ _ _) r, i + 1, f, h => by simpa [SFs.tags] using SFs.tags_get r i f h
theorem known_succ (l : List Int) (i : Nat) (h : i < l.length) : known (l.take (i + 1)) = if 0 ≤ l[i] then max (known (l.take i)) (l[i].toNat + 1) else known (l.take i) := by
  unfold known
  rw [List.take_succ_eq_append_getElem h, List.foldl_append]
  rfl
theorem known_lt {B : Nat} (l : List Int) (h : ∀ t ∈ l, t < (B : Int)) : known l ≤ B := by
  unfold known
  have : ∀ (l : List Int) (n : Nat), n ≤ B → (∀ t ∈ l, t < (B : Int)) → l.foldl (fun n t => if 0 ≤ t then max n (t.toNat + 1) else n) n ≤ B := by
    intro l
    induction l with
    | nil => exact fun n hn _ => hn
    | cons t r ih =>
      intro n hn h
      refine ih _ ?_ (fun x hx => h x (by simp [hx]))
      have := h t (by simp)
      show (if 0 ≤ t then max n (t.toNat + 1) else n) ≤ B
      split <;> omega
  exact this l 0 (Nat.zero_le _) h
section
variable {P : Program} {a : Act} {w : World} {r : List Oper} {Q : Exit → Act → World → Prop}
theorem r_max {d x y t ty p af g k m n} (hx : a.eval x = .int k m) (hy : a.eval y = .int k n) (h : runOps P Q r (a.put (some d) (.int k (if n > m then n else m))) w) :
    runOps P Q (⟨some d, .call { callee := .builtin .max, args := #[x, y], argTypes := t }, ty, p, af, g⟩ :: r) a w := by
  refine st ?_
  have hr : (Builtin.max_ t ty #[a.eval x, a.eval y]).run P w = .ok (.int k (if n > m then n else m)) w := by
    rw [hx, hy]
    simp [Builtin.max_, Builtin.max2]
  simp only [Oper.wp, execOp, resolve, invoke, builtin, Sem.run_bind, Sem.run_pure, Result.andThen_ok, List.map_toArray, List.map_cons, List.map_nil, hr, Oper.upon_value]
  exact h
end

section
variable {P : Program} {E : Env} {w : World} {U : Nat}
theorem s_known (H : SEnv P E) (HL : SLay P E) (HT : STexts P E) {fs : SFs} {sv : Value} (hsf : SlF w U sv fs) (hU : U ≤ w.heap.size) (htg : ∀ t ∈ fs.tags, t < 65536) (hlen : fs.len ≤ big) :
    CallsV P E.sKnown #[sv] w fun v w' => v = .int .u32 (known fs.tags : Nat) ∧ Below U w w' := by
  unfold big at hlen
  refine CallsV.enter HT.known (by simp) ?_
  intro a hsz hdf harg
  have e0 := harg 0 sv (by simp)
  obtain ⟨ad, cap, hsv, hget⟩ : ∃ ad cap, sv = .slice ad fs.len cap ∧ ∀ i f, fs.get i = some f → i < fs.len → ∃ q o c, ad = some ⟨q, o, none⟩ ∧ q < U ∧ Cells w q (o + i * 8) c ∧ f.Rep w U c := by
    rcases hsf with ⟨rfl, h0⟩ | ⟨q, o, cap, rfl, _, hq, hrep⟩
    · exact ⟨none, 0, by rw [h0], fun i f _ hi => by omega⟩
    · refine ⟨_, cap, rfl, fun i f hf _ => ?_⟩
      obtain ⟨c, h1, h2⟩ := hrep.get hf
      exact ⟨q, o, c, rfl, hq, h1, h2⟩
  obtain ⟨z, hz, hzc⟩ := lays_zero HL.fld
  unfold c_sKnown
  refine vc_sq (vc_rg (by simp) ?_)
  refine r_assign ?_
  refine dn ?_
  refine vc_sq (vc_rg (by simp) ?_)
  refine r_assign ?_
  refine dn ?_
  refine vc_sq (vc_sq (vc_rg (by simp) ?_))
  refine r_move ?_
  refine r_len (ad := ad) (n := fs.len) (c := cap) H.sFlds (by simp (disch := (first | omega | (simp only [sP]; omega))) only [eS, eN, eC, e0, hsv]) ?_
  refine r_move ?_
  refine dn ?_
  refine vc_sq (vc_block (vc_count (fun m A W => m ≤ fs.len ∧ A.tmps.size = 23 ∧ A.defers = [] ∧ A.eval (.tmp 6) = sv ∧ A.eval (.tmp 7) = .int .i64 (fs.len : Int) ∧ A.eval (.tmp 8) = .int .i64 ((fs.len - m : Nat) : Int) ∧ A.eval (.tmp 3) = .int .u32 (known (fs.tags.take (fs.len - m)) : Nat) ∧ Below U w W) fs.len ?_ ?_ ?_))
  · refine ⟨Nat.le_refl _, by simp only [size_put]; exact hsz, by simp only [defers_put]; exact hdf, (by simp (disch := (first | omega | (simp only [sP]; omega))) only [eS, eN, eC, e0]), (by simp (disch := (first | omega | (simp only [sP]; omega))) only [eS, eN, eC]), ?_, ?_, Below.refl _ _⟩
    · simp (disch := (first | omega | (simp only [sP]; omega))) only [eS, eN, eC]
      simp
    · simp (disch := (first | omega | (simp only [sP]; omega))) only [eS, eN, eC]
      simp [known]
  · rintro m A W ⟨hm, hs, hd, g6, g7, g8, g3, hb⟩
    have hi : fs.len - (m + 1) < fs.len := by omega
    have him : fs.len - m = (fs.len - (m + 1)) + 1 := by omega
    rw [him]
    generalize hii : fs.len - (m + 1) = i at *
    obtain ⟨f, hf⟩ := SFs.get_lt fs i hi
    obtain ⟨q, o, c, rfl, hq, hc, hrc⟩ := hget i f hf hi
    have htag := SFs.tags_get fs i f hf
    have hil : i < fs.tags.length := by rw [SFs.tags_len]; exact hi
    have htag' : fs.tags[i] = f.tag := by rw [List.getElem?_eq_getElem hil] at htag; exact Option.some.inj htag
    have hks := known_succ fs.tags i hil
    rw [htag'] at hks
    have htb : f.tag < 65536 := htg f.tag (by rw [← htag']; exact List.getElem_mem hil)
    have hkb : known (fs.tags.take i) ≤ 65536 := known_lt (B := 65536) _ (fun t ht => htg t (List.mem_of_mem_take ht))
    have hUW : U ≤ W.heap.size := Nat.le_trans hU hb.size
    refine vc_sq (vc_rg (by simp) ?_)
    refine r_lss (k := .i64) (m := (i : Int)) (n := (fs.len : Int)) g8 g7 ?_
    refine dn ?_
    refine vc_sq (vc_cond (t := true) ?_ ?_ (fun h => by cases h))
    · simp (disch := (first | omega | (simp only [sP]; omega))) only [eS, eN, eC]
      simp only [Value.bool.injEq, decide_eq_true_eq]
      omega
    intro _
    refine vc_skip ?_
    refine vc_sq (vc_block (vc_sq (vc_rg (by simp) ?_)))
    refine r_index (k := .i64) (j := i) (b := q) (o := o) (len := fs.len) (cap := cap) H.sFlds (by simp (disch := (first | omega | (simp only [sP]; omega))) only [eS, eN, eC, g6, hsv]) (by simp (disch := (first | omega | (simp only [sP]; omega))) only [eS, eN, eC, g8]) hi ?_
    refine r_loadAgg (b := q) (o := o + i * 8) (cs := c) (by simp (disch := (first | omega | (simp only [sP]; omega))) only [eS, eN, eC]) (by rw [hrc.len]; exact H.aFld) (hc.below hb hq) ?_
    refine r_alloc hz ?_
    refine r_storeAgg (b := W.heap.size) (o := 0) (cs := c) (by simp (disch := (first | omega | (simp only [sP]; omega))) only [eS, eN, eC]) (by simp (disch := (first | omega | (simp only [sP]; omega))) only [eS, eN, eC]) hrc.one (by rw [hrc.len]; exact H.aFld) ?_ ?_
    · intro j hj
      rw [Nat.zero_add]
      exact free_new W _ _ (by rw [hzc]; rw [hrc.len] at hj; simpa using hj)
    refine dn ?_
    have hc4 : (setCells (W.alloc (.cells z.cells E.tFld)) W.heap.size 0 c).cell? ⟨W.heap.size, 0 + 4, none⟩ = some (.int .i64 f.tag) := by
      refine setCells_cell W.heap.size c _ 0 (fun j hj => ?_) 4 _ ?_
      · rw [Nat.zero_add]
        exact (free_new W z.cells E.tFld (by rw [hzc]; rw [hrc.len] at hj; simpa using hj)).1
      · cases f with
        | mk => obtain ⟨sv2, rfl, _⟩ := hrc; rfl
    have hb2 : Below U w (setCells (W.alloc (.cells z.cells E.tFld)) W.heap.size 0 c) := by
      refine hb.trans (((Below.refl U W).alloc (o := .cells _ _) hUW).trans ((setCells_eff W.heap.size c _ 0).below (by simp; omega) (by rintro k i hk ⟨rfl, _, _⟩; omega)))
    generalize setCells (W.alloc (.cells z.cells E.tFld)) W.heap.size 0 c = W2 at hc4 hb2 ⊢
    have fin : ∀ (B : Act) (k : Nat), B.tmps.size = 23 → B.defers = [] → B.eval (.tmp 6) = sv → B.eval (.tmp 7) = .int .i64 (fs.len : Int) → B.eval (.tmp 8) = .int .i64 (i : Int) → B.eval (.tmp 3) = .int .u32 (k : Int) → k = known (fs.tags.take (i + 1)) → ∀ Q : Exit → Act → World → Prop,
        (∀ A' , m ≤ fs.len ∧ A'.tmps.size = 23 ∧ A'.defers = [] ∧ A'.eval (.tmp 6) = sv ∧ A'.eval (.tmp 7) = .int .i64 (fs.len : Int) ∧ A'.eval (.tmp 8) = .int .i64 ((i + 1 : Nat) : Int) ∧ A'.eval (.tmp 3) = .int .u32 (known (fs.tags.take (i + 1)) : Nat) ∧ Below U w W2 → Q .normal A' W2) →
        vc P (sq [(rg [⟨some 21, .binOp .add E.tInt (.tmp 8) (.const (.int .i64 1)) E.tInt, E.tInt, "", #[], none⟩, ⟨some 8, .move (.tmp 21), E.tInt, "", #[], none⟩])]) Q B W2 := by
      intro B k b1 b2 b6 b7 b8 b3 hk Q hQ
      refine vc_rg (by simp) ?_
      refine r_add (k := .i64) (m := (i : Int)) (n := 1) (by simp (disch := (first | omega | (simp only [sP]; omega))) only [eS, eN, eC, b8]) rfl ?_
      refine r_move ?_
      refine dn ?_
      refine hQ _ ⟨by omega, by simp only [size_put]; exact b1, by simp only [defers_put]; exact b2, (by simp (disch := (first | omega | (simp only [sP]; omega))) only [eS, eN, eC, b6]), (by simp (disch := (first | omega | (simp only [sP]; omega))) only [eS, eN, eC, b7]), ?_, ?_, hb2⟩
      · simp (disch := (first | omega | (simp only [sP]; omega))) only [eS, eN, eC]
        rw [wrap_i64 (by omega) (by omega)]
        rfl
      · simp (disch := (first | omega | (simp only [sP]; omega))) only [eS, eN, eC, b3]
        rw [hk]
    refine vc_sq (vc_rg (by simp) ?_)
    refine r_field (b := W.heap.size) (o := 0) (by simp (disch := (first | omega | (simp only [sP]; omega))) only [eS, eN, eC]) (offs_inv H.fFld (by decide)) ?_
    refine r_load (b := W.heap.size) (o := 0 + 4) (by simp (disch := (first | omega | (simp only [sP]; omega))) only [eS, eN, eC]) H.oInt hc4 ?_
    refine r_geq (k := .i64) (m := f.tag) (n := 0) (by simp (disch := (first | omega | (simp only [sP]; omega))) only [eS, eN, eC]) rfl ?_
    refine dn ?_
    refine vc_sq (vc_cond (t := decide (f.tag ≥ 0)) (by (try simp (disch := (first | omega | (simp only [sP]; omega))) only [eS, eN, eC]) <;> (first | rfl | assumption)) ?_ ?_)
    · intro h0
      have h0' : 0 ≤ f.tag := by simpa using h0
      refine vc_rg (by simp) ?_
      refine r_move ?_
      refine r_field (b := W.heap.size) (o := 0) (by simp (disch := (first | omega | (simp only [sP]; omega))) only [eS, eN, eC]) (offs_inv H.fFld (by decide)) ?_
      refine r_load (b := W.heap.size) (o := 0 + 4) (by simp (disch := (first | omega | (simp only [sP]; omega))) only [eS, eN, eC]) H.oInt hc4 ?_
      refine r_conv (k := .i64) (k' := .u32) (m := f.tag) H.int H.u32 (by simp (disch := (first | omega | (simp only [sP]; omega))) only [eS, eN, eC]) ?_
      have hw1 : IntKind.u32.wrap f.tag = f.tag := by rw [wrap_u32]; omega
      rw [hw1]
      refine r_add (k := .u32) (m := f.tag) (n := 1) (by simp (disch := (first | omega | (simp only [sP]; omega))) only [eS, eN, eC]) rfl ?_
      have hw2 : IntKind.u32.wrap (f.tag + 1) = ((f.tag.toNat + 1 : Nat) : Int) := by rw [wrap_u32]; omega
      rw [hw2]
      refine r_max (k := .u32) (m := ((known (fs.tags.take i) : Nat) : Int)) (n := ((f.tag.toNat + 1 : Nat) : Int)) (by simp (disch := (first | omega | (simp only [sP]; omega))) only [eS, eN, eC, g3]) (by simp (disch := (first | omega | (simp only [sP]; omega))) only [eS, eN, eC]) ?_
      refine r_assign ?_
      refine dn ?_
      refine vc_sq_nil ?_
      refine fin _ (max (known (fs.tags.take i)) (f.tag.toNat + 1)) (by simp only [size_put]; exact hs) (by simp only [defers_put]; exact hd) (by simp (disch := (first | omega | (simp only [sP]; omega))) only [eS, eN, eC, g6]) (by simp (disch := (first | omega | (simp only [sP]; omega))) only [eS, eN, eC, g7]) (by simp (disch := (first | omega | (simp only [sP]; omega))) only [eS, eN, eC, g8]) ?_ (by rw [hks, if_pos h0']) _ (fun A' h => h)
      simp (disch := (first | omega | (simp only [sP]; omega))) only [eS, eN, eC]
      congr 1
      split <;> omega
    · intro h0
      have h0' : ¬ 0 ≤ f.tag := by simpa using h0
      refine vc_skip ?_
      refine vc_sq_nil ?_
      exact fin _ (known (fs.tags.take i)) (by simp only [size_put]; exact hs) (by simp only [defers_put]; exact hd) (by simp (disch := (first | omega | (simp only [sP]; omega))) only [eS, eN, eC, g6]) (by simp (disch := (first | omega | (simp only [sP]; omega))) only [eS, eN, eC, g7]) (by simp (disch := (first | omega | (simp only [sP]; omega))) only [eS, eN, eC, g8]) (by simp (disch := (first | omega | (simp only [sP]; omega))) only [eS, eN, eC, g3]) (by rw [hks, if_neg h0']) _ (fun A' h => h)
  · rintro A W ⟨hm, hs, hd, g6, g7, g8, g3, hb⟩
    refine vc_sq (vc_rg (by simp) ?_)
    refine r_lss (k := .i64) (m := ((fs.len - 0 : Nat) : Int)) (n := (fs.len : Int)) g8 g7 ?_
    refine dn ?_
    refine vc_sq (vc_cond (t := false) ?_ (fun h => by cases h) ?_)
    · simp (disch := (first | omega | (simp only [sP]; omega))) only [eS, eN, eC]
      simp only [Value.bool.injEq, decide_eq_false_iff_not]
      omega
    intro _
    refine vc_exit ?_
    simp only [Exit.then, Exit.inBlock, if_true]
    refine vc_sq_nil ?_
    refine vc_sq (vc_rg (by simp) ?_)
    refine r_move ?_
    refine r_assign ?_
    refine dn ?_
    refine vc_sq (vc_ret ?_)
    rw [Nat.sub_zero, ← SFs.tags_len, List.take_length] at g3
    exact ⟨by simp only [defers_put]; exact hd, _, results_one (by simp (disch := (first | omega | (simp only [sP]; omega))) only [eS, eN, eC, g3]), rfl, hb⟩
end
end Go.Km
