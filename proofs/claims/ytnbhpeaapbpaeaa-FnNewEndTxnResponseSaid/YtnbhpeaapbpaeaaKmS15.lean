/- spec.part: the unknown tags and the end. -/
import Derived.Test.YtnbhpeaapbpaeaaKmS14
set_option linter.unusedSimpArgs false
set_option linter.unusedVariables false
namespace Go.Km
open Go Go.RowKit
attribute [local irreducible] vc runOps runG runS runD

/-- What spec.unknown must give. -/
def UnkC (P : Program) (E : Env) : Prop :=
  ∀ (U : Nat) (w : World) (sv uv : Value) (fs : SFs) (u : List (Nat × List UInt8)), U ≤ w.heap.size → SlF w U sv fs → (∀ t ∈ fs.tags, t < 65536) → fs.len ≤ big → UnkB w U uv u →
    CallsV P E.sUnknown #[sv, uv] w fun v w' => UnkB w' w'.heap.size v (unk (known fs.tags) u) ∧ Below U w w'

theorem insU_len (x : Nat × List UInt8) : ∀ l, (insU x l).length ≤ l.length + 1
  | [] => by simp [insU]
  | y :: r => by
    have := insU_len x r
    unfold insU
    split
    · simp; exact this
    · split <;> simp
theorem unk_len (least : Nat) (u : List (Nat × List UInt8)) : (unk least u).length ≤ 32767 := by
  unfold unk
  have : ∀ (v l : List (Nat × List UInt8)), (v.foldl (fun l x => if x.1 < least then l else insU x l) l).length ≤ l.length + v.length := by
    intro v
    induction v with
    | nil => exact fun l => Nat.le_refl _
    | cons x r ih =>
      intro l
      refine Nat.le_trans (ih _) ?_
      have := insU_len x l
      show (if x.1 < least then l else insU x l).length + r.length ≤ _
      rw [List.length_cons]
      split <;> omega
  refine Nat.le_trans (this _ _) ?_
  rw [List.length_take, List.length_nil]
  omega
theorem UnkB.form {w : World} {U : Nat} {v : Value} {u : List (Nat × List UInt8)} (h : UnkB w U v u) : ∃ ad cap, v = .slice ad u.length cap := by
  rcases h with ⟨rfl, rfl⟩ | ⟨q, o, cap, rfl, _⟩ <;> exact ⟨_, _, rfl⟩
theorem rowB_zero {P : Program} {t e : TypeId} {s : Nat} (h : rowB P t e s = true) : ∃ z, zeroT P e = some z ∧ z.cells.size = s := by
  obtain ⟨_, i, z, hi, _, _, hz, hzs, _⟩ := rowB_inv h
  exact ⟨z, by simp [zeroT, hi, hz], hzs⟩
theorem own_block_lt {w : World} {B : Nat} {e : TypeId} {s : Nat} {v : Value} {n : Nat} {xs : List Value} (h : w.ownsRow B e s v n xs) {g : Nat} (hg : v.ownBlock = some g) : g < w.heap.size := by
  rcases h.2 with ⟨rfl, _⟩ | ⟨g', cap, cur, rfl, _, h3, _⟩
  · cases hg
  · simp only [Value.ownBlock, Option.some.injEq] at hg
    subst hg
    exact (Array.getElem?_eq_some_iff.1 h3).1
/-- A row stays where another one, that lies elsewhere, grows. -/
theorem own_grown {w w' : World} {B : Nat} {e : TypeId} {s : Nat} {v v2 : Value} {n : Nat} {xs : List Value} (h : w.ownsRow B e s v n xs) (hg : w.grownBy w' v2.ownBlock) (hne : ∀ g, v2.ownBlock = some g → g < B) : w'.ownsRow B e s v n xs := by
  refine ⟨h.1, ?_⟩
  rcases h.2 with h | ⟨g, cap, cur, h1, h2, h3, h4⟩
  · exact .inl h
  · have hl : g < w.heap.size := (Array.getElem?_eq_some_iff.1 h3).1
    exact .inr ⟨g, cap, cur, h1, h2, by rw [hg.block g hl (fun he => by have := hne g he.symm; omega)]; exact h3, h4⟩
theorem Cells.grown {w w' : World} {b o : Nat} {cs : List Value} {row : Option Nat} (h : Cells w b o cs) (hg : w.grownBy w' row) (hb : b < w.heap.size) (hne : some b ≠ row) : Cells w' b o cs := by
  intro i v hv
  have := h i v hv
  have e : w'.heap[b]? = w.heap[b]? := hg.block b hb hne
  simp only [World.cell?] at this ⊢
  rw [e]
  exact this
section
variable {P : Program} {a : Act} {w : World} {r : List Oper} {Q : Exit → Act → World → Prop}
theorem r_appendG {d s x t tx ty p af g e sz U v n xs u m news} (hB : rowB P t e sz = true) (hs : a.eval s = v) (hx : a.eval x = u) (hown : w.ownsRow U e sz v n xs) (hU : U ≤ w.heap.size) (hsrc : Src P sz tx u m news w) (hb : n + m ≤ big)
    (h : ∀ v' w', w'.ownsRow U e sz v' (n + m) (xs ++ news) → Below U w w' → w.grownBy w' v.ownBlock → (∀ g, v'.ownBlock = some g → v.ownBlock = some g ∨ w.heap.size ≤ g) → runOps P Q r (a.put (some d) v') w') :
    runOps P Q (⟨some d, .call { callee := .builtin .append, args := #[s, x], argTypes := #[t, tx] }, ty, p, af, g⟩ :: r) a w := by
  refine st ?_
  obtain ⟨v', w', hr, h1, h2, h3⟩ := run_append_src w U t tx ty e sz hB v n xs hown u m news hsrc hb hU
  subst hs; subst hx
  simp only [Oper.wp, execOp, resolve, invoke, builtin, Sem.run_bind, Sem.run_pure, Result.andThen_ok, List.map_toArray, List.map_cons, List.map_nil, hr, Oper.upon_value]
  exact h v' w' h1 (below_grownBy hown h2 hU) h2 h3
end

section
variable {P : Program} {E : Env} {w : World} {U : Nat}
set_option maxHeartbeats 1000000 in
theorem s_partU (H : SEnv P E) (HT : STexts P E) (hunk : UnkC P E) {fs : SFs} {sv uv v9 : Value} {u : List (Nat × List UInt8)} {b : Nat} {A : Act} {W0 : World} {Q : Exit → Act → World → Prop} {xs : List UInt8}
    (hs : A.tmps.size = 132) (hd : A.defers = []) (f0 : A.eval (.tmp 0) = sv) (f7 : A.eval (.tmp 7) = .pointer (some ⟨b, 0, none⟩)) (f9 : A.eval (.tmp 9) = v9) (f10 : A.eval (.tmp 10) = .slice none 0 0) (f11 : A.eval (.tmp 11) = .int .i64 0)
    (hsf : SlF w U sv fs) (htg : ∀ t ∈ fs.tags, t < 65536) (hfl : fs.len ≤ big) (hc : W0.cell? ⟨b, 4, none⟩ = some uv) (hu : UnkB w U uv u) (hU : U ≤ w.heap.size) (hw : Below U w W0) (hown : W0.ownsRow U E.tU8 1 v9 xs.length (xs.map bv))
    {T : List UInt8} (hT : T = ((unk (known fs.tags) u).map fun x => wrTg x.1 (x.2.take 32767)).flatten) (hbig : (xs ++ Go.Km.uvar (unk (known fs.tags) u).length ++ T).length ≤ big)
    (hQ : ∀ a' w', Out P #[.tmp 8] (fun v w' => w'.ownsRow U E.tU8 1 v (xs ++ Go.Km.uvar (unk (known fs.tags) u).length ++ T).length ((xs ++ Go.Km.uvar (unk (known fs.tags) u).length ++ T).map bv) ∧ Below U w w') .ret a' w' → Q .ret a' w') :
    vc P (sq [
    (sq [(rg [⟨some 97, .move (.tmp 0), E.tFlds, "", #[], none⟩,
        ⟨some 98, .fieldAddr E.tTree (.tmp 7) 4, 0, "", #[], none⟩,
        ⟨some 99, .load E.tUnks (.tmp 98), E.tUnks, "", #[], none⟩,
        ⟨some 100, .call { callee := .value (.func E.sUnknown), args := #[(.tmp 97), (.tmp 99)], argTypes := #[E.tFlds, E.tUnks] }, E.tUnks, "", #[], none⟩,
        ⟨some 101, .call { callee := .builtin .len, args := #[(.tmp 100)], argTypes := #[E.tUnks] }, E.tInt, "", #[], none⟩,
        ⟨some 102, .move (.const (.int .i64 0)), E.tInt, "", #[], none⟩]),
      (.block 6 (.loop (sq [(rg [⟨some 103, .binOp .lss E.tInt (.tmp 102) (.tmp 101) E.tInt, 0, "", #[], none⟩]),
            (.cond (.tmp 103)
              .skip
              (.exit 6)),
            (.block 7 (sq [(rg [⟨some 104, .indexAddr E.tUnks (.tmp 100) (.tmp 102), 0, "", #[], none⟩,
                  ⟨some 105, .load E.tUnk (.tmp 104), E.tUnk, "", #[], none⟩,
                  ⟨some 19, .alloc E.tUnk, 0, "", #[], none⟩,
                  ⟨none, .store E.tUnk (.tmp 19) (.tmp 105), 0, "", #[], none⟩]),
                (rg [⟨some 106, .fieldAddr E.tUnk (.tmp 19) 1, 0, "", #[], none⟩,
                  ⟨some 107, .load E.tBytes (.tmp 106), E.tBytes, "", #[], none⟩,
                  ⟨some 108, .call { callee := .value (.func E.sWhole), args := #[(.tmp 107)], argTypes := #[E.tBytes] }, E.tBytes, "", #[], none⟩,
                  ⟨some 20, .assign (.tmp 108), E.tBytes, "", #[], none⟩]),
                (rg [⟨some 109, .move (.tmp 10), E.tBytes, "", #[], none⟩,
                  ⟨some 110, .fieldAddr E.tUnk (.tmp 19) 0, 0, "", #[], none⟩,
                  ⟨some 111, .load E.tU32 (.tmp 110), E.tU32, "", #[], none⟩,
                  ⟨some 112, .convert E.tU32 E.tU64 (.tmp 111), E.tU64, "", #[], none⟩,
                  ⟨some 113, .call { callee := .value (.func E.sUvar), args := #[(.tmp 112)], argTypes := #[E.tU64] }, E.tBytes, "", #[], none⟩,
                  ⟨some 114, .call { callee := .builtin .append, args := #[(.tmp 109), (.tmp 113)], argTypes := #[E.tBytes, E.tBytes] }, E.tBytes, "", #[], none⟩,
                  ⟨some 115, .move (.tmp 20), E.tBytes, "", #[], none⟩,
                  ⟨some 116, .call { callee := .builtin .len, args := #[(.tmp 115)], argTypes := #[E.tBytes] }, E.tInt, "", #[], none⟩,
                  ⟨some 117, .convert E.tInt E.tU64 (.tmp 116), E.tU64, "", #[], none⟩,
                  ⟨some 118, .call { callee := .value (.func E.sUvar), args := #[(.tmp 117)], argTypes := #[E.tU64] }, E.tBytes, "", #[], none⟩,
                  ⟨some 119, .call { callee := .builtin .append, args := #[(.tmp 114), (.tmp 118)], argTypes := #[E.tBytes, E.tBytes] }, E.tBytes, "", #[], none⟩,
                  ⟨some 120, .move (.tmp 20), E.tBytes, "", #[], none⟩,
                  ⟨some 121, .call { callee := .builtin .append, args := #[(.tmp 119), (.tmp 120)], argTypes := #[E.tBytes, E.tBytes] }, E.tBytes, "", #[], none⟩,
                  ⟨some 10, .assign (.tmp 121), E.tBytes, "", #[], none⟩]),
                (rg [⟨some 122, .move (.tmp 11), E.tInt, "", #[], none⟩,
                  ⟨some 123, .binOp .add E.tInt (.tmp 122) (.const (.int .i64 1)) E.tInt, E.tInt, "", #[], none⟩,
                  ⟨some 11, .assign (.tmp 123), E.tInt, "", #[], none⟩])])),
            (rg [⟨some 124, .binOp .add E.tInt (.tmp 102) (.const (.int .i64 1)) E.tInt, E.tInt, "", #[], none⟩,
              ⟨some 102, .move (.tmp 124), E.tInt, "", #[], none⟩])])))]),
    (rg [⟨some 125, .move (.tmp 9), E.tBytes, "", #[], none⟩,
      ⟨some 126, .move (.tmp 11), E.tInt, "", #[], none⟩,
      ⟨some 127, .convert E.tInt E.tU64 (.tmp 126), E.tU64, "", #[], none⟩,
      ⟨some 128, .call { callee := .value (.func E.sUvar), args := #[(.tmp 127)], argTypes := #[E.tU64] }, E.tBytes, "", #[], none⟩,
      ⟨some 129, .call { callee := .builtin .append, args := #[(.tmp 125), (.tmp 128)], argTypes := #[E.tBytes, E.tBytes] }, E.tBytes, "", #[], none⟩,
      ⟨some 130, .move (.tmp 10), E.tBytes, "", #[], none⟩,
      ⟨some 131, .call { callee := .builtin .append, args := #[(.tmp 129), (.tmp 130)], argTypes := #[E.tBytes, E.tBytes] }, E.tBytes, "", #[], none⟩,
      ⟨some 8, .assign (.tmp 131), E.tBytes, "", #[], none⟩]),
    .ret]) Q A W0 := by
  have hUW0 : U ≤ W0.heap.size := Nat.le_trans hU hw.size
  have hslU := rowB_slice H.rUnks
  have hslB := rowB_slice H.row
  obtain ⟨z, hz, hzc⟩ := rowB_zero H.rUnks
  have hun32 := unk_len (known fs.tags) u
  refine vc_sq (vc_sq (vc_rg (by simp) ?_))
  refine r_move ?_
  refine r_field (b := b) (o := 0) (by simp (disch := (first | omega | (simp only [sP]; omega))) only [eS, eN, eC, f7]) (offs_inv H.fTree (by decide)) ?_
  refine r_load (b := b) (o := 0 + 4) (by simp (disch := (first | omega | (simp only [sP]; omega))) only [eS, eN, eC]) H.oUnks (by simpa using hc) ?_
  refine r_call' (args := #[sv, uv]) ?_ (hunk W0.heap.size W0 sv uv fs u (Nat.le_refl _) ((hsf.below hw).mono hUW0) htg hfl ((hu.below hw).mono hUW0)) ?_
  · simp only [List.map_toArray, List.map_cons, List.map_nil]
    simp (disch := (first | omega | (simp only [sP]; omega))) only [eS, eN, eC, f0]
  rintro rv W2 ⟨hrv, hb2⟩
  generalize hun : unk (known fs.tags) u = un at *
  obtain ⟨ad, cap, hrvf⟩ := hrv.form
  refine r_len (ad := ad) (n := un.length) (c := cap) hslU (by simp (disch := (first | omega | (simp only [sP]; omega))) only [eS, eN, eC, hrvf]) ?_
  refine r_move ?_
  refine dn ?_
  have hUW2 : U ≤ W2.heap.size := Nat.le_trans hUW0 hb2.size
  have hown2 := own_below hown hb2
  refine vc_sq (vc_block (vc_count (fun m B V => m ≤ un.length ∧ B.tmps.size = 132 ∧ B.defers = [] ∧ B.eval (.tmp 9) = v9 ∧ B.eval (.tmp 100) = rv ∧ B.eval (.tmp 101) = .int .i64 (un.length : Int) ∧ B.eval (.tmp 102) = .int .i64 ((un.length - m : Nat) : Int) ∧ B.eval (.tmp 11) = .int .i64 ((un.length - m : Nat) : Int) ∧
    W2.heap.size ≤ V.heap.size ∧ Below W2.heap.size W2 V ∧ ∃ ys : List UInt8, V.ownsRow W2.heap.size E.tU8 1 (B.eval (.tmp 10)) ys.length (ys.map bv) ∧ ys = ((un.take (un.length - m)).map fun x => wrTg x.1 (x.2.take 32767)).flatten) un.length ?_ ?_ ?_))
  · refine ⟨Nat.le_refl _, by simp only [size_put]; exact hs, by simp only [defers_put]; exact hd, (by simp (disch := (first | omega | (simp only [sP]; omega))) only [eS, eN, eC, f9]), (by simp (disch := (first | omega | (simp only [sP]; omega))) only [eS, eN, eC]), (by simp (disch := (first | omega | (simp only [sP]; omega))) only [eS, eN, eC]), ?_, ?_, Nat.le_refl _, Below.refl _ _, [], ?_, by simp⟩
    · simp (disch := (first | omega | (simp only [sP]; omega))) only [eS, eN, eC]
      simp
    · simp (disch := (first | omega | (simp only [sP]; omega))) only [eS, eN, eC, f11]
      simp
    · rw [show Act.eval _ (.tmp 10) = Value.slice none 0 0 by simp (disch := (first | omega | (simp only [sP]; omega))) only [eS, eN, eC, f10]]
      exact World.ownsRow_nil _ _ _ _
  · rintro m B V ⟨hm, hsB, hdB, g9, g100, g101, g102, g11, hWV, hbV, ys, hownY, hys⟩
    have hi : un.length - (m + 1) < un.length := by omega
    have him : un.length - m = (un.length - (m + 1)) + 1 := by omega
    rw [him]
    generalize hii : un.length - (m + 1) = i at *
    have hrV := hrv.below hbV
    obtain ⟨q, o, cap', hrv', hq, hel⟩ : ∃ q o cap, rv = .slice (some ⟨q, o, none⟩) un.length cap ∧ q < W2.heap.size ∧ ∀ (i : Nat) (x : Nat × List UInt8), un[i]? = some x → ∃ s, x.1 < 4294967296 ∧ Cells V q (o + i * 2) [.int .u32 x.1, s] ∧ OctsB V W2.heap.size s x.2 := by
      rcases hrV with ⟨_, h0⟩ | ⟨q, o, cap, h1, _, h2, h3⟩
      · rw [h0] at hi; simp at hi
      · exact ⟨q, o, cap, h1, h2, h3⟩
    obtain ⟨s, hkey, hcs, hoc⟩ := hel i un[i] (List.getElem?_eq_getElem hi)
    have hsucc := flat_succ un (fun x => wrTg x.1 (x.2.take 32767)) i hi
    have hle := flat_le un (fun x => wrTg x.1 (x.2.take 32767)) (i + 1)
    rw [hsucc, ← hys, ← hT] at hle
    rw [hsucc, ← hys]
    generalize hx : un[i] = x at *
    obtain ⟨key, oc⟩ := x
    simp only at hkey hcs hoc hle ⊢
    refine vc_sq (vc_rg (by simp) ?_)
    refine r_lss (k := .i64) (m := (i : Int)) (n := (un.length : Int)) g102 g101 ?_
    refine dn ?_
    refine vc_sq (vc_cond (t := true) ?_ ?_ (fun h => by cases h))
    · simp (disch := (first | omega | (simp only [sP]; omega))) only [eS, eN, eC]
      simp only [Value.bool.injEq, decide_eq_true_eq]
      omega
    intro _
    refine vc_skip ?_
    refine vc_sq (vc_block (vc_sq (vc_rg (by simp) ?_)))
    refine r_index (k := .i64) (j := i) (b := q) (o := o) (len := un.length) (cap := cap') hslU (by simp (disch := (first | omega | (simp only [sP]; omega))) only [eS, eN, eC, g100, hrv']) (by simp (disch := (first | omega | (simp only [sP]; omega))) only [eS, eN, eC, g102]) hi ?_
    refine r_loadAgg (b := q) (o := o + i * 2) (cs := [.int .u32 key, s]) (by simp (disch := (first | omega | (simp only [sP]; omega))) only [eS, eN, eC]) H.aUnk hcs ?_
    refine r_alloc hz ?_
    have hs1 : s.oneCell' = true := hoc.one
    refine r_storeAgg (b := V.heap.size) (o := 0) (cs := [.int .u32 key, s]) (by simp (disch := (first | omega | (simp only [sP]; omega))) only [eS, eN, eC]) (by simp (disch := (first | omega | (simp only [sP]; omega))) only [eS, eN, eC]) (by intro v hv; simp only [List.mem_cons, List.not_mem_nil, or_false] at hv; rcases hv with rfl | rfl; rfl; exact hs1) H.aUnk ?_ ?_
    · intro j hj
      rw [Nat.zero_add]
      exact free_new V _ _ (by rw [hzc]; simpa using hj)
    refine dn ?_
    have hcell : ∀ (j : Nat) (v : Value), [Value.int .u32 key, s][j]? = some v → (setCells (V.alloc (.cells z.cells E.tUnk)) V.heap.size 0 [.int .u32 key, s]).cell? ⟨V.heap.size, 0 + j, none⟩ = some v := fun j v hv => by
      refine setCells_cell V.heap.size [.int .u32 key, s] _ 0 (fun j hj => ?_) j v hv
      rw [Nat.zero_add]
      exact (free_new V z.cells E.tUnk (by rw [hzc]; simpa using hj)).1
    have k0 := hcell 0 _ rfl
    have k1 := hcell 1 _ rfl
    have hb3 : Below V.heap.size V (setCells (V.alloc (.cells z.cells E.tUnk)) V.heap.size 0 [.int .u32 key, s]) := by
      refine ((Below.refl V.heap.size V).alloc (o := .cells _ _) (Nat.le_refl _)).trans ((setCells_eff V.heap.size [.int .u32 key, s] _ 0).below (by simp) (by rintro k i hk ⟨rfl, _, _⟩; omega))
    generalize setCells (V.alloc (.cells z.cells E.tUnk)) V.heap.size 0 [.int .u32 key, s] = V1 at k0 k1 hb3 ⊢
    clear hcell
    obtain ⟨ad2, cap2, rfl, hcap2, htake⟩ := hoc.form
    have hlt : oc.take (min oc.length 32767) = oc.take 32767 := by
      rcases Nat.le_total oc.length 32767 with h | h
      · rw [Nat.min_eq_left h, List.take_length, List.take_of_length_le h]
      · rw [Nat.min_eq_right h]
    have hln : min oc.length 32767 = (oc.take 32767).length := by rw [List.length_take, Nat.min_comm]
    have ho2 : ∀ w2, Below W2.heap.size V w2 → OctsB w2 W2.heap.size (.slice ad2 (oc.take 32767).length cap2) (oc.take 32767) := by
      intro w2 hw2
      have := htake (min oc.length 32767) w2 (Nat.min_le_left _ _) hw2
      rwa [hlt, hln] at this
    have hol : (oc.take 32767).length ≤ 32767 := by rw [← hln]; exact Nat.min_le_right _ _
    refine vc_sq (vc_rg (by simp) ?_)
    refine r_field (b := V.heap.size) (o := 0) (by simp (disch := (first | omega | (simp only [sP]; omega))) only [eS, eN, eC]) (offs_inv H.fUnk (by decide)) ?_
    refine r_load (b := V.heap.size) (o := 0 + 1) (by simp (disch := (first | omega | (simp only [sP]; omega))) only [eS, eN, eC]) H.oBytes k1 ?_
    refine r_call' (args := #[.slice ad2 oc.length cap2]) ?_ (s_first (T := E.tBytes) (e := E.tU8) (c := .skip) (.inl hslB) H.int hcap2 HT.whole) ?_
    · simp only [List.map_toArray, List.map_cons, List.map_nil]
      simp (disch := (first | omega | (simp only [sP]; omega))) only [eS, eN, eC]
    rintro v w' ⟨rfl, rfl⟩
    rw [hln]
    generalize oc.take 32767 = s8 at *
    clear hlt hln htake
    refine r_assign ?_
    refine dn ?_
    refine vc_sq (vc_rg (by simp) ?_)
    refine r_move ?_
    refine r_field (b := V.heap.size) (o := 0) (by simp (disch := (first | omega | (simp only [sP]; omega))) only [eS, eN, eC]) (offs_inv H.fUnk (by decide)) ?_
    refine r_load (b := V.heap.size) (o := 0 + 0) (by simp (disch := (first | omega | (simp only [sP]; omega))) only [eS, eN, eC]) H.oU32 k0 ?_
    refine r_conv (k := .u32) (k' := .u64) (m := (key : Int)) H.u32 H.u64 (by simp (disch := (first | omega | (simp only [sP]; omega))) only [eS, eN, eC]) ?_
    have hwk : IntKind.u64.wrap (key : Int) = (key : Int) := by rw [wrap_u64]; omega
    rw [hwk]
    refine r_call' (args := #[.int .u64 (key : Int)]) ?_ (s_uvar (U := V.heap.size) HT.uvar H.row H.u8 H.u64 (by omega) hb3.size) ?_
    · simp only [List.map_toArray, List.map_cons, List.map_nil]
      simp (disch := (first | omega | (simp only [sP]; omega))) only [eS, eN, eC]
    rintro v3 w3 ⟨h3, hb4⟩
    have hV3 := hb3.trans hb4
    have hownY3 := own_below hownY hV3
    have htot : ys.length + (Go.Km.uvar key).length + (Go.Km.uvar s8.length).length + s8.length ≤ big := by
      simp only [wrTg, List.length_append] at hle
      simp only [List.length_append] at hbig
      omega
    refine r_append (sz := 1) (U := W2.heap.size) (m := (Go.Km.uvar key).length) (news := (Go.Km.uvar key).map bv) H.row (by simp (disch := (first | omega | (simp only [sP]; omega))) only [eS, eN, eC]) (by simp (disch := (first | omega | (simp only [sP]; omega))) only [eS, eN, eC]) hownY3 (Nat.le_trans hWV hV3.size) (src_own hslB h3 (bv_one _)) (by omega) ?_
    intro v5 w5 h5 hb5
    rw [← List.length_append, ← List.map_append] at h5
    have hV5 : Below W2.heap.size V w5 := (hV3.mono hWV).trans hb5
    refine r_move ?_
    refine r_len (ad := ad2) (n := s8.length) (c := cap2) hslB (by simp (disch := (first | omega | (simp only [sP]; omega))) only [eS, eN, eC]) ?_
    refine r_conv (k := .i64) (k' := .u64) (m := (s8.length : Int)) H.int H.u64 (by simp (disch := (first | omega | (simp only [sP]; omega))) only [eS, eN, eC]) ?_
    have hwk2 : IntKind.u64.wrap (s8.length : Int) = (s8.length : Int) := by rw [wrap_u64]; omega
    rw [hwk2]
    refine r_call' (args := #[.int .u64 (s8.length : Int)]) ?_ (s_uvar (U := w5.heap.size) HT.uvar H.row H.u8 H.u64 (by omega) (Nat.le_refl _)) ?_
    · simp only [List.map_toArray, List.map_cons, List.map_nil]
      simp (disch := (first | omega | (simp only [sP]; omega))) only [eS, eN, eC]
    rintro v6 w6 ⟨h6, hb6⟩
    have hW5 : W2.heap.size ≤ w5.heap.size := Nat.le_trans hWV hV5.size
    have h56 := own_below h5 hb6
    refine r_append (sz := 1) (U := W2.heap.size) (m := (Go.Km.uvar s8.length).length) (news := (Go.Km.uvar s8.length).map bv) H.row (by simp (disch := (first | omega | (simp only [sP]; omega))) only [eS, eN, eC]) (by simp (disch := (first | omega | (simp only [sP]; omega))) only [eS, eN, eC]) h56 (Nat.le_trans hW5 hb6.size) (src_own hslB h6 (bv_one _)) (by rw [List.length_append]; omega) ?_
    intro v7 w7 h7 hb7
    rw [← List.length_append, ← List.map_append] at h7
    have hV7 : Below W2.heap.size V w7 := (hV5.trans (hb6.mono hW5)).trans hb7
    refine r_move ?_
    refine r_append (sz := 1) (U := W2.heap.size) (m := s8.length) (news := s8.map bv) H.row (by simp (disch := (first | omega | (simp only [sP]; omega))) only [eS, eN, eC]) (by simp (disch := (first | omega | (simp only [sP]; omega))) only [eS, eN, eC]) h7 (Nat.le_trans hWV hV7.size) ((ho2 w7 hV7).src hslB) (by rw [List.length_append, List.length_append]; omega) ?_
    intro v8 w8 h8 hb8
    rw [← List.length_append, ← List.map_append] at h8
    have hV8 : Below W2.heap.size V w8 := hV7.trans hb8
    refine r_assign ?_
    refine dn ?_
    refine vc_sq (vc_rg (by simp) ?_)
    refine r_move ?_
    refine r_add (k := .i64) (m := (i : Int)) (n := 1) (by simp (disch := (first | omega | (simp only [sP]; omega))) only [eS, eN, eC, g11]) rfl ?_
    refine r_assign ?_
    refine dn ?_
    refine vc_sq_nil ?_
    refine vc_sq (vc_rg (by simp) ?_)
    refine r_add (k := .i64) (m := (i : Int)) (n := 1) (by simp (disch := (first | omega | (simp only [sP]; omega))) only [eS, eN, eC, g102]) rfl ?_
    refine r_move ?_
    refine dn ?_
    refine vc_sq_nil ?_
    have hwi : IntKind.i64.wrap ((i : Int) + 1) = ((i + 1 : Nat) : Int) := by rw [wrap_i64 (by omega) (by omega)]; rfl
    refine ⟨by omega, by simp only [size_put]; exact hsB, by simp only [defers_put]; exact hdB, (by simp (disch := (first | omega | (simp only [sP]; omega))) only [eS, eN, eC, g9]), (by simp (disch := (first | omega | (simp only [sP]; omega))) only [eS, eN, eC, g100]), (by simp (disch := (first | omega | (simp only [sP]; omega))) only [eS, eN, eC, g101]), ?_, ?_, Nat.le_trans hWV hV8.size, hbV.trans hV8, ys ++ wrTg key s8, ?_, rfl⟩
    · simp (disch := (first | omega | (simp only [sP]; omega))) only [eS, eN, eC]
      rw [hwi]
    · simp (disch := (first | omega | (simp only [sP]; omega))) only [eS, eN, eC]
      rw [hwi]
    · rw [show Act.eval _ (.tmp 10) = v8 by simp (disch := (first | omega | (simp only [sP]; omega))) only [eS, eN, eC]]
      unfold wrTg
      rw [← List.append_assoc, ← List.append_assoc]
      exact h8
  · rintro B V ⟨hm, hsB, hdB, g9, g100, g101, g102, g11, hWV, hbV, ys, hownY, hys⟩
    rw [Nat.sub_zero, List.take_length, ← hT] at hys
    subst hys
    rw [Nat.sub_zero] at g102 g11
    refine vc_sq (vc_rg (by simp) ?_)
    refine r_lss (k := .i64) (m := (un.length : Int)) (n := (un.length : Int)) g102 g101 ?_
    refine dn ?_
    refine vc_sq (vc_cond (t := false) ?_ (fun h => by cases h) ?_)
    · simp (disch := (first | omega | (simp only [sP]; omega))) only [eS, eN, eC]
      simp only [Value.bool.injEq, decide_eq_false_iff_not]
      omega
    intro _
    refine vc_exit ?_
    simp only [Exit.then, Exit.inBlock, if_true]
    refine vc_sq_nil ?_
    refine vc_sq (vc_rg (by simp) ?_)
    refine r_move ?_
    refine r_move ?_
    refine r_conv (k := .i64) (k' := .u64) (m := (un.length : Int)) H.int H.u64 (by simp (disch := (first | omega | (simp only [sP]; omega))) only [eS, eN, eC, g11]) ?_
    have hwk2 : IntKind.u64.wrap (un.length : Int) = (un.length : Int) := by rw [wrap_u64]; omega
    rw [hwk2]
    refine r_call' (args := #[.int .u64 (un.length : Int)]) ?_ (s_uvar (U := V.heap.size) HT.uvar H.row H.u8 H.u64 (by omega) (Nat.le_refl _)) ?_
    · simp only [List.map_toArray, List.map_cons, List.map_nil]
      simp (disch := (first | omega | (simp only [sP]; omega))) only [eS, eN, eC]
    rintro v3 w3 ⟨h3, hb3⟩
    have hown3 := own_below hown2 (hbV.trans (hb3.mono hWV))
    have hownY3 := own_below hownY hb3
    have hUV : U ≤ V.heap.size := Nat.le_trans hUW2 hWV
    refine r_appendG (sz := 1) (U := U) (v := v9) (m := (Go.Km.uvar un.length).length) (news := (Go.Km.uvar un.length).map bv) H.row (by simp (disch := (first | omega | (simp only [sP]; omega))) only [eS, eN, eC, g9]) (by simp (disch := (first | omega | (simp only [sP]; omega))) only [eS, eN, eC]) hown3 (Nat.le_trans hUV hb3.size) (src_own hslB h3 (bv_one _)) (by simp only [List.length_append] at hbig; omega) ?_
    intro v5 w5 h5 hb5 hg5 _
    rw [← List.length_append, ← List.map_append] at h5
    have hownY5 := own_grown hownY3 hg5 (fun g hg => own_block_lt hown2 hg)
    refine r_move ?_
    refine r_append (sz := 1) (U := U) (m := ys.length) (news := ys.map bv) H.row (by simp (disch := (first | omega | (simp only [sP]; omega))) only [eS, eN, eC]) (by simp (disch := (first | omega | (simp only [sP]; omega))) only [eS, eN, eC]) h5 (Nat.le_trans (Nat.le_trans hUV hb3.size) hb5.size) (src_own hslB hownY5 (bv_one _)) (by rw [← List.length_append]; exact hbig) ?_
    intro v7 w7 h7 hb7
    rw [← List.length_append, ← List.map_append] at h7
    refine r_assign ?_
    refine dn ?_
    refine vc_sq (vc_ret ?_)
    exact hQ _ _ ⟨by simp only [defers_put]; exact hdB, v7, results_one (by simp (disch := (first | omega | (simp only [sP]; omega))) only [eS, eN, eC]), h7, ((((hw.trans (hb2.mono hUW0)).trans (hbV.mono hUW2)).trans (hb3.mono hUV)).trans hb5).trans hb7⟩
end
end Go.Km
