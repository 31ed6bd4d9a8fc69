/- spec.value: the whole. -/
import Derived.Test.YtnbhpeaapbpaeaaKmS7
set_option linter.unusedSimpArgs false
set_option linter.unusedVariables false
namespace Go.Km
open Go Go.RowKit
attribute [local irreducible] vc runOps runG runS runD

section
variable {P : Program} {E : Env} {w : World} {U : Nat}

theorem own_mono {W : World} {B B' : Nat} {e : TypeId} {s : Nat} {v : Value} {n : Nat} {xs : List Value} (h : W.ownsRow B e s v n xs) (hB : B' ≤ B) : W.ownsRow B' e s v n xs := by
  refine ⟨h.1, ?_⟩
  rcases h.2 with h | ⟨g, cap, cur, h1, h2, h3⟩
  · exact .inl h
  · exact .inr ⟨g, cap, cur, h1, Nat.le_trans hB h2, h3⟩
set_option maxHeartbeats 1000000 in
theorem s_value (H : SEnv P E) (HT : STexts P E) (hz8 : zeroT P E.tU8 = some (.int .u8 0)) {kind : Nat} {ver : Int} {nl fx : Bool} {fs : SFs} {sv : Value} {t : Tr} {ts : List Value} (hk : kind ≤ 10) (hp : kind = 10 → PartC P E ver fx fs)
    (hU : U ≤ w.heap.size) (hsf : kind = 10 → SlF w U sv fs) (hr : t.Rep w U ts) (hbig : (valW kind (fs.part ver fx) nl fx t).length ≤ big) :
    Gives P E E.sValue U #[.int .i64 kind, sv, .bool nl, .int .i64 ver, .bool fx, .agg ts.toArray] (valW kind (fs.part ver fx) nl fx t) w := by
  refine CallsV.enter HT.value (by simp) ?_
  intro a hsz hdf harg
  have e0 := harg 0 (.int .i64 kind) (by simp)
  have e1 := harg 1 sv (by simp)
  have e2 := harg 2 (.bool nl) (by simp)
  have e3 := harg 3 (.int .i64 ver) (by simp)
  have e4 := harg 4 (.bool fx) (by simp)
  have e5 := harg 5 (.agg ts.toArray) (by simp)
  cases t with
  | mk n s tnl l u =>
  have hr0 := hr
  obtain ⟨s1, lv, uv, rfl, ho, hu, hl⟩ := hr
  unfold c_sValue
  refine vc_sq (vc_rg (by simp) ?_)
  refine r_box (v := .agg [Value.int .i64 n, s1, .bool tnl, lv, uv].toArray) (by simp (disch := (first | omega | (simp only [sP]; omega))) only [eS, eN, eC, e5]) ?_
  refine r_assign ?_
  refine dn ?_
  generalize hw1 : w.alloc (.cells (Value.agg [Value.int .i64 n, s1, .bool tnl, lv, uv].toArray).cells E.tTree) = W
  have hb : Below U w W := by rw [← hw1]; exact (Below.refl U w).alloc (o := .cells _ _) hU
  have c0 : W.cell? ⟨w.heap.size, 0, none⟩ = some (.int .i64 n) := by rw [← hw1]; exact cells_new w _ E.tTree (i := 0) rfl
  have c1 : W.cell? ⟨w.heap.size, 1, none⟩ = some s1 := by rw [← hw1]; exact cells_new w _ E.tTree (i := 1) rfl
  have call : Cells W w.heap.size 0 [.int .i64 n, s1, .bool tnl, lv, uv] := by
    intro i v hv
    rw [← hw1, Nat.zero_add]
    exact cells_new w _ E.tTree (by simpa [Value.cells] using hv)
  have hUW : U ≤ W.heap.size := Nat.le_trans hU hb.size
  clear hw1
  refine vc_sq (vc_sq (vc_rg (by simp) ?_))
  refine r_move ?_
  refine dn ?_
  generalize hA : ((a.put (some 11) _).put (some 12) _).put (some 16) _ = A
  have g0 : A.eval (.tmp 0) = .int .i64 kind := by rw [← hA]; simp (disch := (first | omega | (simp only [sP]; omega))) only [eS, eN, eC, e0]
  have g1 : A.eval (.tmp 1) = sv := by rw [← hA]; simp (disch := (first | omega | (simp only [sP]; omega))) only [eS, eN, eC, e1]
  have g2 : A.eval (.tmp 2) = .bool nl := by rw [← hA]; simp (disch := (first | omega | (simp only [sP]; omega))) only [eS, eN, eC, e2]
  have g3 : A.eval (.tmp 3) = .int .i64 ver := by rw [← hA]; simp (disch := (first | omega | (simp only [sP]; omega))) only [eS, eN, eC, e3]
  have g4 : A.eval (.tmp 4) = .bool fx := by rw [← hA]; simp (disch := (first | omega | (simp only [sP]; omega))) only [eS, eN, eC, e4]
  have g11 : A.eval (.tmp 11) = .pointer (some ⟨w.heap.size, 0, none⟩) := by rw [← hA]; simp (disch := (first | omega | (simp only [sP]; omega))) only [eS, eN, eC]
  have g16 : A.eval (.tmp 16) = .int .i64 kind := by rw [← hA]; simp (disch := (first | omega | (simp only [sP]; omega))) only [eS, eN, eC, e0]
  have hs : A.tmps.size = 70 := by rw [← hA]; simp only [size_put]; exact hsz
  have hd : A.defers = [] := by rw [← hA]; simp only [defers_put]; exact hdf
  clear hA
  refine vc_sq (vc_block ?_)
  refine vc_sq (vc_rg (by simp) ?_)
  refine r_eql (k := .i64) (m := (kind : Int)) (n := 0) (by simp (disch := (first | omega | (simp only [sP]; omega))) only [eS, eN, eC, g16]) rfl ?_
  refine r_assign ?_
  refine dn ?_
  refine vc_sq (vc_cond (t := ((kind : Int) == 0)) (by (try simp (disch := (first | omega | (simp only [sP]; omega))) only [eS, eN, eC]) <;> (first | rfl | assumption)) ?_ ?_)
  · intro hk0
    have hk0' : kind = 0 := by simp only [beq_iff_eq] at hk0; omega
    subst hk0'
    refine vc_sq (vc_rg (by simp) ?_)
    refine r_field (b := w.heap.size) (o := 0) (by simp (disch := (first | omega | (simp only [sP]; omega))) only [eS, eN, eC, g11]) (offs_inv H.fTree (by decide)) ?_
    refine r_load (b := w.heap.size) (o := 0) (by (try simp (disch := (first | omega | (simp only [sP]; omega))) only [eS, eN, eC]) <;> (first | rfl | assumption)) H.oI64 c0 ?_
    refine r_and1 (n := n) (by simp (disch := (first | omega | (simp only [sP]; omega))) only [eS, eN, eC]) rfl ?_
    refine r_conv (k := .i64) (k' := .u8) (m := n % 2) H.i64 H.u8 (by simp (disch := (first | omega | (simp only [sP]; omega))) only [eS, eN, eC]) ?_
    have hw8 : IntKind.u8.wrap (n % 2) = n % 2 := by rw [wrap8]; omega
    rw [hw8]
    refine r_buildSlice (s := 1) (vs := [.int .u8 (n % 2)]) H.row ?_ rfl (by intro v hv; simp only [List.mem_cons, List.not_mem_nil, or_false] at hv; subst hv; rfl) (by omega) (by omega) ?_
    · simp only [List.map_toArray, List.map_cons, List.map_nil]
      simp (disch := (first | omega | (simp only [sP]; omega))) only [eS, eN, eC]
      rfl
    refine r_assign ?_
    refine dn ?_
    refine vc_sq (vc_ret ?_)
    refine ⟨by simp only [defers_put]; exact hd, _, results_one (by (try simp (disch := (first | omega | (simp only [sP]; omega))) only [eS, eN, eC]) <;> (first | rfl | assumption)), ?_, hb.trans ((Below.refl U W).alloc (o := .cells _ _) hUW)⟩
    have hv : valW ((0 : Nat) : Int) (fs.part ver fx) nl fx (Tr.mk n s tnl l u) = [o8 (n % 2)] := by simp [valW]
    rw [hv]
    have := World.ownsRow_lit W (base := U) (e := E.tU8) (size := 1) #[.int .u8 (n % 2)] 1 hUW (by decide) rfl
    have hbv : [o8 (n % 2)].map bv = [Value.int .u8 (n % 2)] := by
      simp only [List.map_cons, List.map_nil]
      rw [bv_o8 (by omega) (by omega)]
    rw [hbv]
    exact this
  intro hk0
  have hk0' : kind ≠ 0 := by simp only [beq_eq_false_iff_ne, ne_eq] at hk0; omega
  refine vc_sq (vc_rg (by simp) ?_)
  refine r_eql (k := .i64) (m := (kind : Int)) (n := 7) (by simp (disch := (first | omega | (simp only [sP]; omega))) only [eS, eN, eC, g16]) rfl ?_
  refine r_assign ?_
  refine dn ?_
  refine vc_sq (vc_cond (t := ((kind : Int) == 7)) (by (try simp (disch := (first | omega | (simp only [sP]; omega))) only [eS, eN, eC]) <;> (first | rfl | assumption)) ?_ ?_)
  · intro hk7
    have hk7' : kind = 7 := by simp only [beq_iff_eq] at hk7; omega
    subst hk7'
    have hv : valW ((7 : Nat) : Int) (fs.part ver fx) nl fx (Tr.mk n s tnl l u) = s.take 16 ++ List.replicate (16 - s.length) 0 := by simp [valW]
    rw [hv]
    refine vc_sq (vc_rg (by simp) ?_)
    have hlt : w.heap.size < W.heap.size := lt_of_cell c0
    refine r_make16 (U := W.heap.size) H.row hz8 (Nat.le_refl _) ?_
    intro w2 hown2 hb2' _
    have hb2 : Below U W w2 := hb2'.mono hUW
    refine r_assign ?_
    refine dn ?_
    refine vc_sq (vc_rg (by simp) ?_)
    refine r_move ?_
    refine r_field (b := w.heap.size) (o := 0) (by simp (disch := (first | omega | (simp only [sP]; omega))) only [eS, eN, eC, g11]) (offs_inv H.fTree (by decide)) ?_
    refine r_load (b := w.heap.size) (o := 0 + 1) (by simp (disch := (first | omega | (simp only [sP]; omega))) only [eS, eN, eC]) H.oBytes (v := s1) (by rw [hb2'.cell (p := ⟨w.heap.size, 0 + 1, none⟩) hlt]; simpa using c1) ?_
    refine r_copy16 (U := W.heap.size) (gb := W.heap.size) (sv := s1) (s := s) H.row (by simp (disch := (first | omega | (simp only [sP]; omega))) only [eS, eN, eC]) (by simp (disch := (first | omega | (simp only [sP]; omega))) only [eS, eN, eC]) hown2 ((ho.below (hb.trans hb2)).mono hUW) (Nat.le_refl _) ?_
    intro w3 hown3' hb3'
    have hb3 : Below U w2 w3 := hb3'.mono hUW
    have hown3 := own_mono hown3' hUW
    refine dn ?_
    refine vc_sq (vc_rg (by simp) ?_)
    refine r_move ?_
    refine r_assign ?_
    refine dn ?_
    refine vc_sq (vc_ret ?_)
    refine ⟨by simp only [defers_put]; exact hd, .slice (some ⟨W.heap.size, 0, none⟩) 16 16, results_one (by simp (disch := (first | omega | (simp only [sP]; omega))) only [eS, eN, eC]), ?_, (hb.trans hb2).trans hb3⟩
    rw [show (List.take 16 s ++ List.replicate (16 - s.length) (0 : UInt8)).length = 16 by simp; omega]
    exact hown3
  intro hk7
  have hk7' : kind ≠ 7 := by simp only [beq_eq_false_iff_ne, ne_eq] at hk7; omega
  refine vc_sq (vc_rg (by simp) ?_)
  refine r_eql (k := .i64) (m := (kind : Int)) (n := 8) (by simp (disch := (first | omega | (simp only [sP]; omega))) only [eS, eN, eC, g16]) rfl ?_
  refine r_assign ?_
  refine dn ?_
  refine vc_sq (vc_cond (t := ((kind : Int) == 8)) (by (try simp (disch := (first | omega | (simp only [sP]; omega))) only [eS, eN, eC]) <;> (first | rfl | assumption)) ?_ ?_)
  · intro hk8
    have hk8' : kind = 8 := by simp only [beq_iff_eq] at hk8; omega
    subst hk8'
    have hv : valW ((8 : Nat) : Int) (fs.part ver fx) nl fx (Tr.mk n s tnl l u) = cnt fx nl (if nl then [] else s.take 32767 : List UInt8).length 2 ++ (if nl then [] else s.take 32767) := by simp [valW]
    rw [hv] at hbig ⊢
    exact s_text (w := w) (U := U) (X := 14) (t := 34) (size := 2) (sv := s1) (s := s) H HT (.inl rfl) (by decide) (by decide) (by decide) (by simp only [size_put]; exact hs) (by simp only [defers_put]; exact hd) (by simp (disch := (first | omega | (simp only [sP]; omega))) only [eS, eN, eC, g2]) (by simp (disch := (first | omega | (simp only [sP]; omega))) only [eS, eN, eC, g4]) (by simp (disch := (first | omega | (simp only [sP]; omega))) only [eS, eN, eC, g11]) c1 ho hb hU hbig (fun _ _ h => h)
  intro hk8
  have hk8' : kind ≠ 8 := by simp only [beq_eq_false_iff_ne, ne_eq] at hk8; omega
  refine vc_sq (vc_rg (by simp) ?_)
  refine r_eql (k := .i64) (m := (kind : Int)) (n := 9) (by simp (disch := (first | omega | (simp only [sP]; omega))) only [eS, eN, eC, g16]) rfl ?_
  refine r_assign ?_
  refine dn ?_
  refine vc_sq (vc_cond (t := ((kind : Int) == 9)) (by (try simp (disch := (first | omega | (simp only [sP]; omega))) only [eS, eN, eC]) <;> (first | rfl | assumption)) ?_ ?_)
  · intro hk9
    have hk9' : kind = 9 := by simp only [beq_iff_eq] at hk9; omega
    subst hk9'
    have hv : valW ((9 : Nat) : Int) (fs.part ver fx) nl fx (Tr.mk n s tnl l u) = cnt fx nl (if nl then [] else s.take 32767 : List UInt8).length 4 ++ (if nl then [] else s.take 32767) := by simp [valW]
    rw [hv] at hbig ⊢
    exact s_text (w := w) (U := U) (X := 15) (t := 47) (size := 4) (sv := s1) (s := s) H HT (.inr rfl) (by decide) (by decide) (by decide) (by simp only [size_put]; exact hs) (by simp only [defers_put]; exact hd) (by simp (disch := (first | omega | (simp only [sP]; omega))) only [eS, eN, eC, g2]) (by simp (disch := (first | omega | (simp only [sP]; omega))) only [eS, eN, eC, g4]) (by simp (disch := (first | omega | (simp only [sP]; omega))) only [eS, eN, eC, g11]) c1 ho hb hU hbig (fun _ _ h => h)
  intro hk9
  have hk9' : kind ≠ 9 := by simp only [beq_eq_false_iff_ne, ne_eq] at hk9; omega
  refine vc_sq (vc_rg (by simp) ?_)
  refine r_eql (k := .i64) (m := (kind : Int)) (n := 10) (by simp (disch := (first | omega | (simp only [sP]; omega))) only [eS, eN, eC, g16]) rfl ?_
  refine r_assign ?_
  refine dn ?_
  refine vc_sq (vc_cond (t := ((kind : Int) == 10)) (by (try simp (disch := (first | omega | (simp only [sP]; omega))) only [eS, eN, eC]) <;> (first | rfl | assumption)) ?_ ?_)
  · intro hka
    have hka' : kind = 10 := by simp only [beq_iff_eq] at hka; omega
    subst hka'
    have hv : valW ((10 : Nat) : Int) (fs.part ver fx) nl fx (Tr.mk n s tnl l u) = fs.part ver fx (Tr.mk n s tnl l u) := by simp [valW]
    rw [hv] at hbig ⊢
    refine vc_sq (vc_rg (by simp) ?_)
    refine r_move ?_
    refine r_move ?_
    refine r_move ?_
    refine r_loadAgg (b := w.heap.size) (o := 0) (cs := [.int .i64 n, s1, .bool tnl, lv, uv]) (by simp (disch := (first | omega | (simp only [sP]; omega))) only [eS, eN, eC, g11]) H.aTree call ?_
    refine r_call' (args := #[sv, .int .i64 ver, .bool fx, .agg [Value.int .i64 n, s1, .bool tnl, lv, uv].toArray]) ?_ (hp rfl U W sv (Tr.mk n s tnl l u) _ hUW ((hsf rfl).below hb) (hr0.below hb) hbig) ?_
    · simp only [List.map_toArray, List.map_cons, List.map_nil]
      simp (disch := (first | omega | (simp only [sP]; omega))) only [eS, eN, eC, g1, g3, g4]
    rintro v w2 ⟨h1, h2⟩
    refine r_assign ?_
    refine dn ?_
    refine vc_sq (vc_ret ?_)
    exact ⟨by simp only [defers_put]; exact hd, v, results_one (by simp (disch := (first | omega | (simp only [sP]; omega))) only [eS, eN, eC]), h1, hb.trans h2⟩
  intro hka
  have hka' : kind ≠ 10 := by simp only [beq_eq_false_iff_ne, ne_eq] at hka; omega
  have hv : valW (kind : Int) (fs.part ver fx) nl fx (Tr.mk n s tnl l u) = be (widthOf kind) n := by
    simp [valW, hk0', show ¬ (kind : Int) = 0 by omega, show ¬ (kind : Int) = 7 by omega, show ¬ (kind : Int) = 8 by omega, show ¬ (kind : Int) = 9 by omega, show ¬ (kind : Int) = 10 by omega]
  rw [hv] at hbig ⊢
  refine vc_skip ?_
  generalize hA2 : ((((((((((A.put (some 18) _).put (some 17) _).put (some 25) _).put (some 24) _).put (some 33) _).put (some 32) _).put (some 46) _).put (some 45) _).put (some 59) _).put (some 58) _) = B
  have b0 : B.eval (.tmp 0) = .int .i64 kind := by rw [← hA2]; simp (disch := (first | omega | (simp only [sP]; omega))) only [eS, eN, eC, g0]
  have b11 : B.eval (.tmp 11) = .pointer (some ⟨w.heap.size, 0, none⟩) := by rw [← hA2]; simp (disch := (first | omega | (simp only [sP]; omega))) only [eS, eN, eC, g11]
  have hsB : B.tmps.size = 70 := by rw [← hA2]; simp only [size_put]; exact hs
  have hdB : B.defers = [] := by rw [← hA2]; simp only [defers_put]; exact hd
  clear hA2
  simp only [Exit.then, Exit.inBlock]
  repeat (refine vc_sq_nil ?_)
  have hlt : w.heap.size < W.heap.size := lt_of_cell c0
  have hw8 : widthOf kind ≤ 8 := by unfold widthOf; repeat' (first | omega | split)
  refine vc_sq (vc_rgd [(0, true), (1, true), (2, true), (3, false), (4, false), (5, true)] (fun W' => W'.cell? ⟨w.heap.size, 0, none⟩ = some (.int .i64 n)) HT.mixed (by kernel_rfl) rfl (by kernel_rfl) (fun _ _ _ _ h => False.elim h) ?_)
  have hS : ({ W with drawn := W.drawn + 1 } : World).cell? ⟨w.heap.size, 0, none⟩ = some (.int .i64 n) := c0
  have hbd : Below W.heap.size W { W with drawn := W.drawn + 1 } := ⟨rfl, rfl, rfl, Nat.le_refl _, fun _ _ => rfl⟩
  refine d_pure rfl rfl rfl (wants_none rfl) (by simp only [size_put, hsB]; decide) hS (fun w' hS' => r_field (b := w.heap.size) (o := 0) (by simp (disch := (first | omega | (simp only [sP]; omega))) only [eS, eN, eC, b11]) (offs_inv H.fTree (by decide)) (dn ⟨rfl, rfl, rfl⟩)) ?_
  refine d_pure rfl rfl rfl (wants_none rfl) (by simp only [size_put, hsB]; decide) hS (fun w' hS' => r_load (b := w.heap.size) (o := 0) (v := .int .i64 n) (by (try simp (disch := (first | omega | (simp only [sP]; omega))) only [eS, eN, eC]) <;> (first | rfl | assumption)) H.oI64 hS' (dn ⟨rfl, rfl, rfl⟩)) ?_
  refine d_pure rfl rfl rfl (wants_none rfl) (by simp only [size_put, hsB]; decide) hS (fun w' hS' => r_move (dn ⟨rfl, rfl, rfl⟩)) ?_
  refine d_sole rfl (wants_none rfl) ?_
  refine r_call' (args := #[.int .i64 kind]) ?_ (s_width HT.width (by omega)) ?_
  · simp only [List.map_toArray, List.map_cons, List.map_nil]
    simp (disch := (first | omega | (simp only [sP]; omega))) only [eS, eN, eC, b0]
  rintro v w2 ⟨rfl, rfl⟩
  refine dn (d_then hS ?_)
  refine d_sole rfl (wants_none rfl) ?_
  refine r_call' (args := #[.int .i64 n, .int .i64 (widthOf kind : Nat)]) ?_ (s_fixed (U := W.heap.size) HT.fixed H.row H.u8 H.i64 H.int hw8 (Nat.le_refl _)) ?_
  · simp only [List.map_toArray, List.map_cons, List.map_nil]
    simp (disch := (first | omega | (simp only [sP]; omega))) only [eS, eN, eC]
  rintro v w3 ⟨h1, h2⟩
  have hS3 : w3.cell? ⟨w.heap.size, 0, none⟩ = some (.int .i64 n) := by rw [(hbd.trans h2).cell (p := ⟨w.heap.size, 0, none⟩) hlt]; exact c0
  refine dn (d_then hS3 ?_)
  refine d_pure rfl rfl rfl (wants_none rfl) (by simp only [size_put, hsB]; decide) hS3 (fun w' hS' => r_assign (dn ⟨rfl, rfl, rfl⟩)) ?_
  refine d_nil ?_
  refine vc_sq (vc_ret ?_)
  exact ⟨by simp only [defers_put]; exact hdB, v, results_one (by simp (disch := (first | omega | (simp only [sP]; omega))) only [eS, eN, eC]), own_mono h1 hUW, hb.trans ((hbd.trans h2).mono hUW)⟩
end
end Go.Km
