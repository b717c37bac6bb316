import Derived.Test.YtedbbekfpficpaaTr
set_option linter.unusedSimpArgs false
set_option linter.unusedVariables false
namespace Go.Proofs.Ytedbbekfpficpaa
open Go.RowKit Go.Proofs.YtedbbekfpficpaaW.PrintWords Go.Proofs.YtedbbekfpficpaaW.PrintLast Fl
/-- A matrix of r rows and c columns whose numbers are exact as floats. -/
structure Fit1 (a : List (List Int)) (r c : Nat) : Prop where
  hr : 1 ≤ r ∧ r ≤ 100
  hc : 1 ≤ c ∧ c ≤ 100
  ha : Sized a r c
  hx : ∀ i j, (ent a i j).natAbs < 2 ^ 53
theorem Fit1.good {a : List (List Int)} {r c : Nat} (h : Fit1 a r c) : Good a c ∧ Fits a := good_of h.hr h.hc.2 h.ha h.hx
theorem sized_turn (a : List (List Int)) (r c : Nat) : Sized (turnM a r c) c r := sized_mat _ _ _
theorem Fit1.turn {a : List (List Int)} {r c : Nat} (h : Fit1 a r c) : Fit1 (turnM a r c) c r := by
  refine ⟨h.hc, h.hr, sized_turn _ _ _, fun i j => ?_⟩
  unfold turnM
  rw [ent_mat]
  split
  · exact h.hx j i
  · decide
theorem St.one {a : List (List Int)} {r c g : Nat} {w : World} (ha : Sized a r c) (h : St [(a, c)] g 1 w) : ∃ e A c0 ga gb eb, Arg1 w g e A a.length c0 ga gb eb c r ∧ (Kd.slice 58 dN).C w A a.length a := by
  rcases h with ⟨h, _⟩ | ⟨_, t, ht, e, v, lo, hi, hL, hE, _, _, _, hA⟩ | ⟨h, _⟩
  · omega
  · obtain rfl : (a, c) = t := by simpa using ht
    obtain ⟨A, c0, ga, gb, eb, rfl, hC, _, h1, h2, h3⟩ := hA.at
    rw [← ha.1]
    exact ⟨e, A, c0, ga, gb, eb, ⟨hL, hE, h1, h2, h3⟩, hC⟩
  · omega
theorem innerList1 (a : List (List Int)) (c : Nat) (ha : Good a c) (A : Option Addr) (c0 : Nat) (w : World) (hC : tA.C w A 1 [ta a]) :
    Calls Try.prog 24 #[.slice A 1 c0] w fun e w' => e = .returned (pt w.heap.size) ∧ St [(a, c)] w.heap.size 1 w' ∧ Below w.heap.size w w' :=
  innerList_ [(a, c)] (by simp) (by
    intro t ht
    simp only [List.mem_cons, List.not_mem_nil, or_false] at ht
    rcases ht with rfl
    exact ha) A c0 w hC
attribute [local go_sem] run_store_float
set_option maxHeartbeats 1000000 in
set_option maxRecDepth 100000 in
theorem doorTurn (a : List (List Int)) (r c : Nat) (h : Fit1 a r c) (A : Option Addr) (c0 : Nat) (w : World) (hC : tA.C w A 1 [ta a]) :
    Calls Try.prog 19 #[.slice A 1 c0] w (Made tA (ta (turnM a r c)) w) := by
  have HC := Aside0.mk hC
  have HF := Aside0.mk h
  have HG := Aside0.mk h.good
  have HM := Aside0.mk h.turn.good.2
  clear hC h
  go_enter Try.func19, Try.ntmps19
  go_wp2_with (first
    | (go_at_call 22; refine (doorFuncs _).mono ?_; rintro e w1 ⟨⟨fp, rfl⟩, hb1⟩
       have hR1 := Aside0.mk (blk_below (g := w.heap.size) (heap_alloc_new _ _) hb1)
       have hs1 := Aside0.mk (show w.heap.size + 1 ≤ w1.heap.size by have := hb1.size; simp at this; omega)
       have hb1 := Aside0.mk (below_then ((Below.refl w.heap.size w).alloc (Nat.le_refl _) _) (by simp) hb1))
    | (go_at_call 24; refine (innerList1 a c HG.out.1 A c0 _ (Kd.C_below HC.out hb1.out)).mono ?_; rintro e w2 ⟨rfl, hSt, hb2⟩
       obtain ⟨e1, A1, c1, ga, gb, eb, hA1, hC1⟩ := hSt.one HF.out.ha
       have hA1 := Aside0.mk hA1; have hC1 := Aside0.mk hC1; have hb2 := Aside0.mk hb2)
    | (go_at_call 25; refine (transpose a r c HF.out.hr HF.out.hc HF.out.ha _ w1.heap.size e1 A1 c1 ga gb eb w2 hA1.out hC1.out).mono ?_; rintro e w3 ⟨cs3, rfl, hK3, hb3⟩
       have hK3 := Aside0.mk hK3; have hb3 := Aside0.mk hb3)
    | (go_at_call 21; refine (doorTable (turnM a r c) HM.out cs3 w3 hK3.out).mono ?_; rintro e w4 ⟨cs4, rfl, hM4, hb4⟩
       obtain ⟨kk, xx, ss, AA, nn, cc, rfl⟩ := shapeA _ _ _ _ (Kd.K_of_M _ hM4)
       have hM4 := Aside0.mk hM4; have hb4 := Aside0.mk hb4
       have hR4 := Aside0.mk (blk_below (blk_below (blk_below hR1.out hb2.out) hb3.out) hb4.out))
    | (refine wpList_store_row rfl 46 (.tmp 2) (.tmp 7) rfl w.heap.size _ rfl rfl 46 _ hR4.out (by kernel_rfl) rfl (by simp [Value.oneCell']) ?_))
  refine bodyPost_ret (results_cell_row rfl _ _ w.heap.size 46 #[.int .i64 kk, .float .f64 xx, .string ss, .slice AA nn cc] (0, 0) _ rfl (setRow_heap _ _ _ _ _ _ hR4.out) Try.underlying46 rfl (by kernel_rfl)) rfl ?_
  have z1 := hs1.out
  have z2 := hb2.out.size
  have z3 := hb3.out.size
  exact made_row tA hM4.out (by omega) (below_step (below_step (below_step hb1.out hb2.out) hb3.out) hb4.out) rfl
set_option maxHeartbeats 1000000 in
set_option maxRecDepth 100000 in
theorem implTurn (a : List (List Int)) (r c : Nat) (h : Fit1 a r c) (A : Option Addr) (c0 : Nat) (w : World) (hC : tI.C w A 1 [ta a]) :
    Calls Try.prog 11 #[.slice A 1 c0] w (Made tI (ta (turnM a r c)) w) := by
  have HC := Aside0.mk hC
  have HF := Aside0.mk h
  have HG := Aside0.mk h.good
  have HM := Aside0.mk h.turn.good.2
  clear hC h
  have hin := fun w' hC' => inTables [a] (by simp) (by
    intro m hm
    simp only [List.mem_cons, List.not_mem_nil, or_false] at hm
    rcases hm with rfl
    exact HG.out.2) A c0 w' hC'
  have hin := Aside0.mk (show ∀ w', tI.C w' A 1 [ta a] → Calls Try.prog 17 #[.slice A 1 c0] w' (MadeRow tA 46 [ta a] w') from hin)
  go_enter Try.func11, Try.ntmps11
  go_wp2_with (first
    | (go_at_call 17; refine (hin.out _ (Kd.C_below HC.out ((Below.refl _ _).alloc (Nat.le_refl _) _))).mono ?_; rintro e w1 ⟨v1, rfl, hM1, hb1⟩
       have hR1 := Aside0.mk (blk_below (g := w.heap.size) (heap_alloc_new _ _) hb1)
       have hs1 := Aside0.mk (show w.heap.size + 1 ≤ w1.heap.size by have := hb1.size; simp at this; omega)
       have hb1 := Aside0.mk (below_then ((Below.refl w.heap.size w).alloc (Nat.le_refl _) _) (by simp) hb1)
       obtain ⟨A1, c1, rfl, _, hC1⟩ := Kd.R_reads hM1
       have hC1 := Aside0.mk (show tA.C w1 A1 1 [ta a] from hC1))
    | (go_at_call 19; refine (doorTurn a r c HF.out A1 c1 _ hC1.out).mono ?_; rintro e w2 ⟨cs2, rfl, hM2, hb2⟩
       have hK2 := Aside0.mk (Kd.K_of_M _ hM2); have hb2 := Aside0.mk hb2)
    | (go_at_call 15; refine (outTable (turnM a r c) HM.out cs2 _ hK2.out).mono ?_; rintro e w4 ⟨cs4, rfl, hM4, hb4⟩
       obtain ⟨kk, xx, ss, AA, nn, cc, rfl⟩ := shapeI _ _ _ _ (Kd.K_of_M _ hM4)
       have hM4 := Aside0.mk hM4; have hb4 := Aside0.mk hb4
       have hR4 := Aside0.mk (blk_below (blk_below hR1.out hb2.out) hb4.out))
    | (refine wpList_store_row rfl 30 (.tmp 2) (.tmp 6) rfl w.heap.size _ rfl rfl 30 _ hR4.out (by kernel_rfl) rfl (by simp [Value.oneCell']) ?_))
  refine bodyPost_ret (results_cell_row rfl _ _ w.heap.size 30 #[.int .i64 kk, .float .f64 xx, .string ss, .slice AA nn cc] (0, 0) _ rfl (setRow_heap _ _ _ _ _ _ hR4.out) Try.underlying30 rfl (by kernel_rfl)) rfl ?_
  have z1 := hs1.out
  have z2 := hb2.out.size
  exact made_row tI hM4.out (by omega) (below_step (below_step hb1.out hb2.out) hb4.out) rfl
set_option maxHeartbeats 1000000 in
set_option maxRecDepth 100000 in
theorem askTurn (a : List (List Int)) (r c : Nat) (h : Fit1 a r c) (A : Option Addr) (c0 : Nat) (w : World) (hC : tS.C w A 1 [ta a]) :
    Calls Try.prog 7 #[.func (.func 11) #[] #[], .slice A 1 c0] w (Made tI (ta (turnM a r c)) w) := by
  have HC := Aside0.mk hC
  have HF := Aside0.mk h
  have HG := Aside0.mk h.good
  clear hC h
  have hin := fun w' hC' => allTables [a] (by simp) (by
    intro m hm
    simp only [List.mem_cons, List.not_mem_nil, or_false] at hm
    rcases hm with rfl
    exact HG.out.2) A c0 w' hC'
  have hin := Aside0.mk (show ∀ w', tS.C w' A 1 [ta a] → Calls Try.prog 18 #[.slice A 1 c0] w' (MadeRow tI 30 [ta a] w') from hin)
  go_enter Try.func7, Try.ntmps7
  go_wp2_with (first
    | (go_at_call 18; refine (hin.out _ (Kd.C_below HC.out ((Below.refl _ _).alloc (Nat.le_refl _) _))).mono ?_; rintro e w1 ⟨v1, rfl, hM1, hb1⟩
       have hR1 := Aside0.mk (blk_below (g := w.heap.size) (heap_alloc_new _ _) hb1)
       have hs1 := Aside0.mk (show w.heap.size + 1 ≤ w1.heap.size by have := hb1.size; simp at this; omega)
       have hb1 := Aside0.mk (below_then ((Below.refl w.heap.size w).alloc (Nat.le_refl _) _) (by simp) hb1)
       obtain ⟨A1, c1, rfl, _, hC1⟩ := Kd.R_reads hM1
       have hC1 := Aside0.mk (show tI.C w1 A1 1 [ta a] from hC1))
    | (go_at_call 11; refine (implTurn a r c HF.out A1 c1 _ hC1.out).mono ?_; rintro e w4 ⟨cs4, rfl, hM4, hb4⟩
       obtain ⟨kk, xx, ss, AA, nn, cc, rfl⟩ := shapeI _ _ _ _ (Kd.K_of_M _ hM4)
       have hM4 := Aside0.mk hM4; have hb4 := Aside0.mk hb4
       have hR4 := Aside0.mk (blk_below hR1.out hb4.out))
    | (refine wpList_store_row rfl 30 (.tmp 4) (.tmp 8) rfl w.heap.size _ rfl rfl 30 _ hR4.out (by kernel_rfl) rfl (by simp [Value.oneCell']) ?_))
  refine bodyPost_ret (results_cell_row rfl _ _ w.heap.size 30 #[.int .i64 kk, .float .f64 xx, .string ss, .slice AA nn cc] (0, 0) _ rfl (setRow_heap _ _ _ _ _ _ hR4.out) Try.underlying30 rfl (by kernel_rfl)) rfl ?_
  have z1 := hs1.out
  exact made_row tI hM4.out (by omega) (below_step hb1.out hb4.out) rfl
end Go.Proofs.Ytedbbekfpficpaa
