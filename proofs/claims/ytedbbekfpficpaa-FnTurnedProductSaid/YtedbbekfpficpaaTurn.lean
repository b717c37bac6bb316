import Derived.Test.YtedbbekfpficpaaPart
set_option linter.unusedSimpArgs false
set_option linter.unusedVariables false
namespace Go.Proofs.Ytedbbekfpficpaa
open Go.RowKit Go.Proofs.YtedbbekfpficpaaW.PrintWords Go.Proofs.YtedbbekfpficpaaW.PrintLast Fl
theorem fitXY (la lb : List Int) (r k c : Nat) (hr : 1 ≤ r ∧ r ≤ 6) (hk : 1 ≤ k ∧ k ≤ 6) (hc : 1 ≤ c ∧ c ≤ 6) : Fit2 (gridM la r k) (gridM lb k c) r k c := by
  rw [gridM_mat, gridM_mat]
  exact fit2_mat (X := 99) (Y := 99) (by omega) (by omega) (by omega) (fun i j => cellG_bound _ _) (fun i j => cellG_bound _ _) (by decide) (by decide) (by decide)
theorem fitGr (la : List Int) (r k : Nat) (hr : 1 ≤ r ∧ r ≤ 6) (hk : 1 ≤ k ∧ k ≤ 6) : Fit1 (gridM la r k) r k := by
  rw [gridM_mat]
  refine ⟨by omega, by omega, sized_mat _ _ _, fun i j => ?_⟩
  have := ent_bound (r := r) (c := k) (f := fun i j => cellG la (i * k + j)) (fun i j => cellG_bound _ _) i j
  omega
theorem fitMul (la lb : List Int) (r k c : Nat) (hr : 1 ≤ r ∧ r ≤ 6) (hk : 1 ≤ k ∧ k ≤ 6) (hc : 1 ≤ c ∧ c ≤ 6) : Fit1 (mulM (gridM la r k) (gridM lb k c) r k c) r c := by
  refine ⟨by omega, by omega, sized_mul _ _ _ _ _, fun i j => ?_⟩
  rw [mulM_mat, ent_mat]
  split
  · exact ((fitXY la lb r k c hr hk hc).hx i j k).2.2.2
  · decide
theorem turn_bound (la : List Int) (r k : Nat) (i j : Nat) : (ent (gridM la r k) j i).natAbs ≤ 99 := by
  rw [gridM_mat]
  exact ent_bound (r := r) (c := k) (f := fun i j => cellG la (i * k + j)) (fun i j => cellG_bound _ _) j i
theorem fitTurn (la lb : List Int) (r k c : Nat) (hr : 1 ≤ r ∧ r ≤ 6) (hk : 1 ≤ k ∧ k ≤ 6) (hc : 1 ≤ c ∧ c ≤ 6) : Fit2 (turnM (gridM lb k c) k c) (turnM (gridM la r k) r k) c k r := by
  unfold turnM
  exact fit2_mat (X := 99) (Y := 99) (by omega) (by omega) (by omega) (fun i j => turn_bound _ _ _ _ _) (fun i j => turn_bound _ _ _ _ _) (by decide) (by decide) (by decide)
attribute [local go_sem] run_store_float
set_option maxHeartbeats 2000000 in
set_option maxRecDepth 100000 in
theorem turned (la lb : List Int) (x y z : Int) (A1 A2 : Option Addr) (c1 c2 : Nat) (w : World) (h1 : (Kd.int .i64).C w A1 la.length la) (h2 : (Kd.int .i64).C w A2 lb.length lb) :
    Calls Try.prog 4 #[.slice A1 la.length c1, .slice A2 lb.length c2, .int .i64 x, .int .i64 y, .int .i64 z] w fun e w' => e = .returned (.bool true) ∧ Below w.heap.size w w' := by
  have HB := Below.refl w.heap.size w
  by_cases ha : la.length ≤ 2147483647
  · by_cases hb : lb.length ≤ 2147483647
    · have z1 : decide ((2147483647 : Int) < (la.length : Int)) = false := decide_eq_false (by omega)
      have z2 : decide ((2147483647 : Int) < (lb.length : Int)) = false := decide_eq_false (by omega)
      obtain ⟨r, hr⟩ : ∃ r, r = 1 + sixth x := ⟨_, rfl⟩
      obtain ⟨k, hk⟩ : ∃ k, k = 1 + sixth y := ⟨_, rfl⟩
      obtain ⟨c, hc⟩ : ∃ c, c = 1 + sixth z := ⟨_, rfl⟩
      have lx := sixth_lt x
      have ly := sixth_lt y
      have lz := sixth_lt z
      have lx' : (sixth x : Int) < 6 := by omega
      have ly' : (sixth y : Int) < 6 := by omega
      have lz' : (sixth z : Int) < 6 := by omega
      have er : 1 + (sixth x : Int) = (r : Int) := by omega
      have ek : 1 + (sixth y : Int) = (k : Int) := by omega
      have ec : 1 + (sixth z : Int) = (c : Int) := by omega
      have br := Aside0.mk (show 1 ≤ r ∧ r ≤ 6 by omega)
      have bk := Aside0.mk (show 1 ≤ k ∧ k ≤ 6 by omega)
      have bc := Aside0.mk (show 1 ≤ c ∧ c ≤ 6 by omega)
      have bcI : (c : Int) ≤ 6 := by omega
      replace h1 := Aside0.mk h1
      replace h2 := Aside0.mk h2
      replace HB := Aside0.mk HB
      have FXY := Aside0.mk (fitXY la lb r k c br.out bk.out bc.out)
      have FM := Aside0.mk (fitMul la lb r k c br.out bk.out bc.out)
      have FX := Aside0.mk (fitGr la r k br.out bk.out)
      have FY := Aside0.mk (fitGr lb k c bk.out bc.out)
      have FT := Aside0.mk (fitTurn la lb r k c br.out bk.out bc.out)
      clear hr hk hc
      go_enter Try.func4, Try.ntmps4
      go_wp2_with (first
        | (go_at_call 9; with_reducible refine (part_ x _).mono ?_; rintro e w' ⟨rfl, hw⟩; subst hw)
        | (go_at_call 9; with_reducible refine (part_ y _).mono ?_; rintro e w' ⟨rfl, hw⟩; subst hw)
        | (go_at_call 9; with_reducible refine (part_ z _).mono ?_; rintro e w' ⟨rfl, hw⟩; subst hw)
        | (go_at_call 10; (with_reducible refine (matrix_ la ha r k br.out bk.out A1 c1 _ h1.out).mono ?_); rintro e w1 ⟨cs1, rfl, hM1, hb1⟩
           obtain ⟨B1, n1, d1, rfl⟩ := shapeS_tab _ _ _ (Kd.K_of_M _ hM1)
           have hK1 := Aside0.mk (Kd.K_of_M _ hM1); have hb1 := Aside0.mk hb1; clear hM1)
        | (go_at_call 10; (with_reducible refine (matrix_ lb hb k c bk.out bc.out A2 c2 _ (Kd.C_below h2.out hb1.out)).mono ?_); rintro e w2 ⟨cs2, rfl, hM2, hb2⟩
           obtain ⟨B2, n2, d2, rfl⟩ := shapeS_tab _ _ _ (Kd.K_of_M _ hM2)
           have hK2 := Aside0.mk (Kd.K_of_M _ hM2); replace hK1 := Aside0.mk (tS.K_below hb2 hK1.out)
           have HW : Below w2.heap.size w2 (((w2.alloc (Obj.cells #[.int .i64 5, .int .i64 0, .int .i64 0, .string ⟨#[]⟩, .slice B1 n1 d1] 25)).alloc (Obj.cells #[.int .i64 5, .int .i64 0, .int .i64 0, .string ⟨#[]⟩, .slice B2 n2 d2] 25)).alloc (Obj.cells #[.int .i64 5, .int .i64 0, .int .i64 0, .string ⟨#[]⟩, .slice B1 n1 d1, .int .i64 5, .int .i64 0, .int .i64 0, .string ⟨#[]⟩, .slice B2 n2 d2] 25)) := by repeat (first | exact Below.refl _ _ | refine Below.alloc ?_ (by simp <;> omega) _)
           have hCxy := Aside0.mk (show tS.C (((w2.alloc (Obj.cells #[.int .i64 5, .int .i64 0, .int .i64 0, .string ⟨#[]⟩, .slice B1 n1 d1] 25)).alloc (Obj.cells #[.int .i64 5, .int .i64 0, .int .i64 0, .string ⟨#[]⟩, .slice B2 n2 d2] 25)).alloc (Obj.cells #[.int .i64 5, .int .i64 0, .int .i64 0, .string ⟨#[]⟩, .slice B1 n1 d1, .int .i64 5, .int .i64 0, .int .i64 0, .string ⟨#[]⟩, .slice B2 n2 d2] 25)) (some ⟨w2.heap.size + 1 + 1, 0, none⟩) 2 [ta (gridM la r k), ta (gridM lb k c)] from C_two tS (e := 25) (show _ = some (Obj.cells (([.int .i64 5, .int .i64 0, .int .i64 0, .string ⟨#[]⟩, .slice B1 n1 d1] : List Value) ++ ([.int .i64 5, .int .i64 0, .int .i64 0, .string ⟨#[]⟩, .slice B2 n2 d2] : List Value)).toArray 25 (0, 0)) from blk_at (by simp)) (tS.K_below HW hK1.out) (tS.K_below HW hK2.out))
           replace HW := Aside0.mk HW
           have hb2 := Aside0.mk (below_step hb1.out hb2); clear hM2)
        | (go_at_call 7; refine (askMul (gridM la r k) (gridM lb k c) r k c FXY.out _ 2 _ hCxy.out).mono ?_; rintro e w4 ⟨cs4, rfl, hM4, hb4⟩
           obtain ⟨kq, xq, sq, Aq, nq, cq, rfl⟩ := shapeI _ _ _ _ (Kd.K_of_M _ hM4)
           have hC11 := Aside0.mk (show tI.C (w4.alloc (Obj.cells #[.int .i64 kq, .float .f64 xq, .string sq, .slice Aq nq cq] 30)) (some ⟨w4.heap.size, 0, none⟩) 1 [ta (mulM (gridM la r k) (gridM lb k c) r k c)] from C_one tI (heap_alloc_new _ _) (tI.K_below ((Below.refl _ _).alloc (Nat.le_refl _) _) (Kd.K_of_M _ hM4)))
           have G1 := Aside0.mk (show w4.heap[w2.heap.size]? = some (.cells #[.int .i64 5, .int .i64 0, .int .i64 0, .string ⟨#[]⟩, .slice B1 n1 d1] 25 (0, 0)) from blk_below (blk_alloc (blk_alloc (heap_alloc_new _ _) _) _) hb4)
           have G2 := Aside0.mk (show w4.heap[w2.heap.size + 1]? = some (.cells #[.int .i64 5, .int .i64 0, .int .i64 0, .string ⟨#[]⟩, .slice B2 n2 d2] 25 (0, 0)) from blk_below (blk_alloc (blk_at (by simp)) _) hb4)
           replace HW := Aside0.mk (below_step HW.out hb4)
           clear hCxy hM4 hb4)
        | (go_at_call 11; refine (implTurn (mulM (gridM la r k) (gridM lb k c) r k c) r c FM.out _ 1 _ hC11.out).mono ?_; rintro e w5 ⟨cs5, rfl, hM5, hb5⟩
           obtain ⟨kk, xx, ss, AA, nn, cc, rfl⟩ := shapeI _ _ _ _ (Kd.K_of_M _ hM5)
           have hb45 : Below w4.heap.size w4 w5 := below_then ((Below.refl _ _).alloc (Nat.le_refl _) _) (by simp) hb5
           have K5 := Aside0.mk (Kd.K_of_M _ hM5)
           replace G1 := Aside0.mk (blk_below G1.out hb45)
           replace G2 := Aside0.mk (blk_below G2.out hb45)
           replace HW := Aside0.mk (below_step HW.out hb45)
           clear hC11 hM5 hb5 hb45))
      obtain ⟨wC, hwC⟩ : ∃ wC, Aside0 (wC = w5.alloc (Obj.cells #[.int .i64 kk, .float .f64 xx, .string ss, .slice AA nn cc] 30)) := ⟨_, ⟨rfl⟩⟩
      rw [← hwC.out]
      have hb5C : Below w5.heap.size w5 wC := by rw [hwC.out]; exact (Below.refl _ _).alloc (Nat.le_refl _) _
      obtain ⟨g1, hg1⟩ : ∃ g1, Aside0 (g1 = w2.heap.size) := ⟨_, ⟨rfl⟩⟩
      obtain ⟨g2, hg2⟩ : ∃ g2, Aside0 (g2 = w2.heap.size + 1) := ⟨_, ⟨rfl⟩⟩
      obtain ⟨g13, hg13⟩ : ∃ g13, Aside0 (g13 = w5.heap.size) := ⟨_, ⟨rfl⟩⟩
      replace G1 := Aside0.mk (show wC.heap[g1]? = some (.cells #[.int .i64 5, .int .i64 0, .int .i64 0, .string ⟨#[]⟩, .slice B1 n1 d1] 25 (0, 0)) by rw [hg1.out]; exact blk_below G1.out hb5C)
      replace G2 := Aside0.mk (show wC.heap[g2]? = some (.cells #[.int .i64 5, .int .i64 0, .int .i64 0, .string ⟨#[]⟩, .slice B2 n2 d2] 25 (0, 0)) by rw [hg2.out]; exact blk_below G2.out hb5C)
      have S13 := Aside0.mk (show wC.heap[g13]? = some (.cells #[.int .i64 kk, .float .f64 xx, .string ss, .slice AA nn cc] 30 (0, 0)) by rw [hwC.out, hg13.out]; exact heap_alloc_new _ _)
      have K13 := Aside0.mk (tI.K_below hb5C K5.out)
      have HK1 := Aside0.mk (tS.K_below (below_step HW.out hb5C) hK1.out)
      have HK2 := Aside0.mk (tS.K_below (below_step HW.out hb5C) hK2.out)
      have hbW := Aside0.mk (below_step hb2.out (below_step HW.out hb5C))
      rw [← hg2.out, ← hg1.out, ← hg13.out]
      clear hb5C hwC K5 hK1 hK2 HW hb1 hb2 hg1 hg2 hg13
      refine start_ (n := 10) (S := fun w' => Below wC.heap.size wC w') (ds := [9]) #[false, false, false, false, false, false, false, false, false, false] (by kernel_rfl) rfl rfl ((Below.refl _ _).drew) (fun hHeld => ?_)
      refine take_ (i := 0) (N := some 46) (v := ?_) (a' := ?_) #[true, false, false, false, false, false, false, false, false, false] rfl rfl (by kernel_rfl) (fun _ _ _ h => h) (Or.inl ⟨by rfl, ?_⟩) hHeld ?_ ?_
      rotate_left
      · intro w' s0
        have e0 : w'.cell? ⟨g2, 0, none⟩ = some (.int .i64 5) := blk_cell (blk_below G2.out s0) 0
        have e1 : w'.cell? ⟨g2, 1, none⟩ = some (.int .i64 0) := blk_cell (blk_below G2.out s0) 1
        have e2 : w'.cell? ⟨g2, 2, none⟩ = some (.int .i64 0) := blk_cell (blk_below G2.out s0) 2
        have e3 : w'.cell? ⟨g2, 3, none⟩ = some (.string ⟨#[]⟩) := blk_cell (blk_below G2.out s0) 3
        have e4 : w'.cell? ⟨g2, 4, none⟩ = some (.slice B2 n2 d2) := blk_cell (blk_below G2.out s0) 4
        go_simp
        with_reducible rfl
      rotate_left
      · simp only [Act.put, List.setIfInBounds_toArray, List.set_cons_zero, List.set_cons_succ, i64_w, i32_w]
        rfl
      refine take_ (i := 3) (N := some 49) (v := ?_) (a' := ?_) #[true, false, false, true, false, false, false, false, false, false] rfl rfl (by kernel_rfl) (fun _ _ _ h => h) (Or.inl ⟨by rfl, ?_⟩) hHeld ?_ ?_
      rotate_left
      · intro w' s0
        have e0 : w'.cell? ⟨g1, 0, none⟩ = some (.int .i64 5) := blk_cell (blk_below G1.out s0) 0
        have e1 : w'.cell? ⟨g1, 1, none⟩ = some (.int .i64 0) := blk_cell (blk_below G1.out s0) 1
        have e2 : w'.cell? ⟨g1, 2, none⟩ = some (.int .i64 0) := blk_cell (blk_below G1.out s0) 2
        have e3 : w'.cell? ⟨g1, 3, none⟩ = some (.string ⟨#[]⟩) := blk_cell (blk_below G1.out s0) 3
        have e4 : w'.cell? ⟨g1, 4, none⟩ = some (.slice B1 n1 d1) := blk_cell (blk_below G1.out s0) 4
        go_simp
        with_reducible rfl
      rotate_left
      · simp only [Act.put, List.setIfInBounds_toArray, List.set_cons_zero, List.set_cons_succ, i64_w, i32_w]
        rfl
      obtain ⟨W0, hW0⟩ : ∃ W', Aside0 (W' = wC.drew) := ⟨_, ⟨rfl⟩⟩
      rw [← hW0.out] at hHeld ⊢
      have hLo := Aside0.mk hHeld.size
      refine join_ (σ := Nat × Value × Value × Value × Value × Value × Value) 1 #[true, true, true, true, true, true, true, true, true, false] (fun s => [(47, s.2.1), (48, s.2.2.1), (50, s.2.2.2.1), (51, s.2.2.2.2.1), (52, s.2.2.2.2.2.1), (53, s.2.2.2.2.2.2), (14, .pointer (some ⟨s.1, 0, none⟩))]) (fun s w' => Below wC.heap.size wC w' ∧ wC.heap.size ≤ s.1 ∧ w'.heap[s.1]? = some (.cells #[.int .i64 0, .float .f64 0, .string ⟨#[]⟩, .slice none 0 0] 30 (0, 0)) ∧ ∃ cs, s.2.2.2.2.2.2 = .agg cs.toArray ∧ tI.M w' wC.heap.size (fun q => q ≠ s.1) (ta (mulM (turnM (gridM lb k c) k c) (turnM (gridM la r k) r k) c k r)) cs) ?_ ?_
      rotate_left
      · intro hCont
        refine three_ (i := 1) (j := 4) (k := 8) (Ni := some 47) (Nj := some 50) (Nk := some 14) #[true, true, false, true, false, false, false, false, false, false] #[true, false, false, true, true, false, false, false, false, false] #[true, false, false, true, false, false, false, false, true, false] rfl rfl rfl rfl rfl rfl (by kernel_rfl) (by decide) (by decide) (by decide) (fun K hK => ?_) (fun K hK => ?_) (fun K hK => ?_)
        · skip
          refine value_ (w1 := ?_) (v := ?_) (by rfl) rfl ?_ ?_
          rotate_left 2
          · go_simp
            constructor
            · rfl
            · rfl
          obtain ⟨W1, hW1⟩ : ∃ W', Aside0 (W' = W0.alloc (Obj.cells #[.int .i64 5, .int .i64 0, .int .i64 0, .string ⟨#[]⟩, .slice B2 n2 d2] 25)) := ⟨_, ⟨rfl⟩⟩
          rw [← hW1.out]
          have hb1 : Below W0.heap.size W0 W1 := by rw [hW1.out]; exact (Below.refl _ _).alloc (Nat.le_refl _) _
          have H1 := Aside0.mk (C_one tS (show W1.heap[W0.heap.size]? = some (.cells (([.int .i64 5, .int .i64 0, .int .i64 0, .string ⟨#[]⟩, .slice B2 n2 d2] : List Value)).toArray 25 (0, 0)) by rw [hW1.out]; exact heap_alloc_new _ _) (tS.K_below (below_step hHeld hb1) HK2.out))
          refine hK.out _ _ ((below_step hHeld hb1)) (fun hHeld => ?_)
          clear hK K
          refine norm_ (a' := ?_) ?_ ?_
          rotate_left
          · show Act.put _ (some 47) _ = _
            simp only [Act.put, List.setIfInBounds_toArray, List.set_cons_zero, List.set_cons_succ, i64_w, i32_w]
            rfl
          refine three_ (i := 2) (j := 4) (k := 8) (Ni := some 48) (Nj := some 50) (Nk := some 14) #[true, true, true, true, false, false, false, false, false, false] #[true, true, false, true, true, false, false, false, false, false] #[true, true, false, true, false, false, false, false, true, false] rfl rfl rfl rfl rfl rfl (by kernel_rfl) (by decide) (by decide) (by decide) (fun K hK => ?_) (fun K hK => ?_) (fun K hK => ?_)
          · skip
            refine goes_ Try.func7 (by kernel_rfl) rfl #[.func (.func 11) #[] #[], .slice (some ⟨W0.heap.size, 0, none⟩) 1 1] (by rfl) rfl rfl (by simp only [List.map_toArray, List.map_cons, List.map_nil]; rfl) ?_
            with_reducible refine (askTurn (gridM lb k c) k c FY.out _ _ _ H1.out).mono ?_
            rintro e W2 ⟨cs, rfl, hM, hb2⟩
            refine ⟨_, rfl, ?_⟩
            obtain ⟨kq2, xq2, sq2, Aq2, nq2, cq2, rfl⟩ := shapeI _ _ _ _ (Kd.K_of_M _ hM)
            replace H1 := Aside0.mk (Kd.C_below H1.out hb2)
            have H2 := Aside0.mk (Kd.K_of_M _ hM)
            refine hK.out _ _ ((below_step hHeld hb2)) (fun hHeld => ?_)
            clear hK K
            refine norm_ (a' := ?_) ?_ ?_
            rotate_left
            · show Act.put _ (some 48) _ = _
              simp only [Act.put, List.setIfInBounds_toArray, List.set_cons_zero, List.set_cons_succ, i64_w, i32_w]
              rfl
            refine two_ (i := 4) (j := 8) (Ni := some 50) (Nj := some 14) #[true, true, true, true, true, false, false, false, false, false] #[true, true, true, true, false, false, false, false, true, false] rfl rfl rfl rfl (by kernel_rfl) (by decide) (by decide) (fun K hK => ?_) (fun K hK => ?_)
            · skip
              refine value_ (w1 := ?_) (v := ?_) (by rfl) rfl ?_ ?_
              rotate_left 2
              · go_simp
                constructor
                · rfl
                · rfl
              obtain ⟨W3, hW3⟩ : ∃ W', Aside0 (W' = W2.alloc (Obj.cells #[.int .i64 5, .int .i64 0, .int .i64 0, .string ⟨#[]⟩, .slice B1 n1 d1] 25)) := ⟨_, ⟨rfl⟩⟩
              rw [← hW3.out]
              have hb3 : Below W2.heap.size W2 W3 := by rw [hW3.out]; exact (Below.refl _ _).alloc (Nat.le_refl _) _
              replace H1 := Aside0.mk (Kd.C_below H1.out hb3)
              replace H2 := Aside0.mk (tI.K_below hb3 H2.out)
              have H4 := Aside0.mk (C_one tS (show W3.heap[W2.heap.size]? = some (.cells (([.int .i64 5, .int .i64 0, .int .i64 0, .string ⟨#[]⟩, .slice B1 n1 d1] : List Value)).toArray 25 (0, 0)) by rw [hW3.out]; exact heap_alloc_new _ _) (tS.K_below (below_step hHeld hb3) HK1.out))
              refine hK.out _ _ ((below_step hHeld hb3)) (fun hHeld => ?_)
              clear hK K
              refine norm_ (a' := ?_) ?_ ?_
              rotate_left
              · show Act.put _ (some 50) _ = _
                simp only [Act.put, List.setIfInBounds_toArray, List.set_cons_zero, List.set_cons_succ, i64_w, i32_w]
                rfl
              refine two_ (i := 5) (j := 8) (Ni := some 51) (Nj := some 14) #[true, true, true, true, true, true, false, false, false, false] #[true, true, true, true, true, false, false, false, true, false] rfl rfl rfl rfl (by kernel_rfl) (by decide) (by decide) (fun K hK => ?_) (fun K hK => ?_)
              · skip
                refine goes_ Try.func7 (by kernel_rfl) rfl #[.func (.func 11) #[] #[], .slice (some ⟨W2.heap.size, 0, none⟩) 1 1] (by rfl) rfl rfl (by simp only [List.map_toArray, List.map_cons, List.map_nil]; rfl) ?_
                with_reducible refine (askTurn (gridM la r k) r k FX.out _ _ _ H4.out).mono ?_
                rintro e W4 ⟨cs, rfl, hM, hb4⟩
                refine ⟨_, rfl, ?_⟩
                obtain ⟨kq5, xq5, sq5, Aq5, nq5, cq5, rfl⟩ := shapeI _ _ _ _ (Kd.K_of_M _ hM)
                replace H1 := Aside0.mk (Kd.C_below H1.out hb4)
                replace H2 := Aside0.mk (tI.K_below hb4 H2.out)
                replace H4 := Aside0.mk (Kd.C_below H4.out hb4)
                have H5 := Aside0.mk (Kd.K_of_M _ hM)
                refine hK.out _ _ ((below_step hHeld hb4)) (fun hHeld => ?_)
                clear hK K
                refine norm_ (a' := ?_) ?_ ?_
                rotate_left
                · show Act.put _ (some 51) _ = _
                  simp only [Act.put, List.setIfInBounds_toArray, List.set_cons_zero, List.set_cons_succ, i64_w, i32_w]
                  rfl
                refine two_ (i := 6) (j := 8) (Ni := some 52) (Nj := some 14) #[true, true, true, true, true, true, true, false, false, false] #[true, true, true, true, true, true, false, false, true, false] rfl rfl rfl rfl (by kernel_rfl) (by decide) (by decide) (fun K hK => ?_) (fun K hK => ?_)
                · skip
                  refine value_ (w1 := ?_) (v := ?_) (by rfl) rfl ?_ ?_
                  rotate_left 2
                  · go_simp
                    constructor
                    · rfl
                    · rfl
                  obtain ⟨W5, hW5⟩ : ∃ W', Aside0 (W' = W4.alloc (Obj.cells #[.int .i64 kq2, .float .f64 xq2, .string sq2, .slice Aq2 nq2 cq2, .int .i64 kq5, .float .f64 xq5, .string sq5, .slice Aq5 nq5 cq5] 30)) := ⟨_, ⟨rfl⟩⟩
                  rw [← hW5.out]
                  have hb5 : Below W4.heap.size W4 W5 := by rw [hW5.out]; exact (Below.refl _ _).alloc (Nat.le_refl _) _
                  replace H1 := Aside0.mk (Kd.C_below H1.out hb5)
                  replace H2 := Aside0.mk (tI.K_below hb5 H2.out)
                  replace H4 := Aside0.mk (Kd.C_below H4.out hb5)
                  replace H5 := Aside0.mk (tI.K_below hb5 H5.out)
                  have H6 := Aside0.mk (C_two tI (show W5.heap[W4.heap.size]? = some (.cells (([.int .i64 kq2, .float .f64 xq2, .string sq2, .slice Aq2 nq2 cq2] : List Value) ++ ([.int .i64 kq5, .float .f64 xq5, .string sq5, .slice Aq5 nq5 cq5] : List Value)).toArray 30 (0, 0)) by rw [hW5.out]; exact heap_alloc_new _ _) H2.out H5.out)
                  refine hK.out _ _ ((below_step hHeld hb5)) (fun hHeld => ?_)
                  clear hK K
                  refine norm_ (a' := ?_) ?_ ?_
                  rotate_left
                  · show Act.put _ (some 52) _ = _
                    simp only [Act.put, List.setIfInBounds_toArray, List.set_cons_zero, List.set_cons_succ, i64_w, i32_w]
                    rfl
                  refine two_ (i := 7) (j := 8) (Ni := some 53) (Nj := some 14) #[true, true, true, true, true, true, true, true, false, false] #[true, true, true, true, true, true, true, false, true, false] rfl rfl rfl rfl (by kernel_rfl) (by decide) (by decide) (fun K hK => ?_) (fun K hK => ?_)
                  · skip
                    have HLs := Aside0.mk hHeld.size
                    refine goes_ Try.func6 (by kernel_rfl) rfl #[.slice (some ⟨W4.heap.size, 0, none⟩) 2 2] (by rfl) rfl rfl (by simp only [List.map_toArray, List.map_cons, List.map_nil]; rfl) ?_
                    with_reducible refine (implMul (turnM (gridM lb k c) k c) (turnM (gridM la r k) r k) c k r FT.out _ _ _ H6.out).mono ?_
                    rintro e W6 ⟨cs, rfl, hM, hb6⟩
                    refine ⟨_, rfl, ?_⟩
                    obtain ⟨kq7, xq7, sq7, Aq7, nq7, cq7, rfl⟩ := shapeI _ _ _ _ (Kd.K_of_M _ hM)
                    replace H1 := Aside0.mk (Kd.C_below H1.out hb6)
                    replace H2 := Aside0.mk (tI.K_below hb6 H2.out)
                    replace H4 := Aside0.mk (Kd.C_below H4.out hb6)
                    replace H5 := Aside0.mk (tI.K_below hb6 H5.out)
                    replace H6 := Aside0.mk (Kd.C_below H6.out hb6)
                    have H7 := Aside0.mk (tI.M_mono (ok' := fun q => W5.heap.size ≤ q ∧ q < W6.heap.size) (fun q hq => ⟨hq.2.1, hq.2.2.1⟩) (tI.M_bound hM))
                    refine hK.out _ _ ((below_step hHeld hb6)) (fun hHeld => ?_)
                    clear hK K
                    refine norm_ (a' := ?_) ?_ ?_
                    rotate_left
                    · show Act.put _ (some 53) _ = _
                      simp only [Act.put, List.setIfInBounds_toArray, List.set_cons_zero, List.set_cons_succ, i64_w, i32_w]
                      rfl
                    refine one_ (i := 8) (N := some 14) #[true, true, true, true, true, true, true, true, true, false] rfl rfl (by kernel_rfl) (by decide) (fun K hK => ?_)
                    refine value_ (w1 := ?_) (v := ?_) (by rfl) rfl ?_ ?_
                    rotate_left 2
                    · go_simp
                      constructor
                      · rfl
                      · rfl
                    obtain ⟨W7, hW7⟩ : ∃ W', Aside0 (W' = W6.alloc (Obj.cells #[.int .i64 0, .float .f64 0, .string ⟨#[]⟩, .slice none 0 0] 30)) := ⟨_, ⟨rfl⟩⟩
                    rw [← hW7.out]
                    have hb7 : Below W6.heap.size W6 W7 := by rw [hW7.out]; exact (Below.refl _ _).alloc (Nat.le_refl _) _
                    replace H1 := Aside0.mk (Kd.C_below H1.out hb7)
                    replace H2 := Aside0.mk (tI.K_below hb7 H2.out)
                    replace H4 := Aside0.mk (Kd.C_below H4.out hb7)
                    replace H5 := Aside0.mk (tI.K_below hb7 H5.out)
                    replace H6 := Aside0.mk (Kd.C_below H6.out hb7)
                    replace H7 := Aside0.mk (Kd.M_below H7.out hb7)
                    have H8 := Aside0.mk (show W7.heap[W6.heap.size]? = some (.cells #[.int .i64 0, .float .f64 0, .string ⟨#[]⟩, .slice none 0 0] 30 (0, 0)) by rw [hW7.out]; exact heap_alloc_new _ _)
                    have HZ := Aside0.mk (show W6.heap.size < W7.heap.size by rw [hW7.out]; simp)
                    have HG := Aside0.mk hHeld.size
                    have HQ := Aside0.mk (show ∀ q, W5.heap.size ≤ q ∧ q < W6.heap.size → q ≠ W6.heap.size from fun q hq => by omega)
                    refine hK.out _ _ ((below_step hHeld hb7)) (fun hHeld => ?_)
                    clear hK K
                    refine norm_ (a' := ?_) ?_ ?_
                    rotate_left
                    · show Act.put _ (some 14) _ = _
                      simp only [Act.put, List.setIfInBounds_toArray, List.set_cons_zero, List.set_cons_succ, i64_w, i32_w]
                      rfl
                    exact norm_ (by simp only [putAll, Act.put, List.setIfInBounds_toArray, List.set_cons_zero, List.set_cons_succ]) (hCont (W6.heap.size, .slice (some ⟨W0.heap.size, 0, none⟩) 1 1, .agg #[.int .i64 kq2, .float .f64 xq2, .string sq2, .slice Aq2 nq2 cq2], .slice (some ⟨W2.heap.size, 0, none⟩) 1 1, .agg #[.int .i64 kq5, .float .f64 xq5, .string sq5, .slice Aq5 nq5 cq5], .slice (some ⟨W4.heap.size, 0, none⟩) 2 2, .agg #[.int .i64 kq7, .float .f64 xq7, .string sq7, .slice Aq7 nq7 cq7]) _ ⟨hHeld, HG.out, H8.out, _, rfl, tI.M_mono HQ.out (Kd.M_lower tI HLs.out H7.out)⟩)
                  · skip
                    refine value_ (w1 := ?_) (v := ?_) (by rfl) rfl ?_ ?_
                    rotate_left 2
                    · go_simp
                      constructor
                      · rfl
                      · rfl
                    obtain ⟨W6, hW6⟩ : ∃ W', Aside0 (W' = W5.alloc (Obj.cells #[.int .i64 0, .float .f64 0, .string ⟨#[]⟩, .slice none 0 0] 30)) := ⟨_, ⟨rfl⟩⟩
                    rw [← hW6.out]
                    have hb6 : Below W5.heap.size W5 W6 := by rw [hW6.out]; exact (Below.refl _ _).alloc (Nat.le_refl _) _
                    replace H1 := Aside0.mk (Kd.C_below H1.out hb6)
                    replace H2 := Aside0.mk (tI.K_below hb6 H2.out)
                    replace H4 := Aside0.mk (Kd.C_below H4.out hb6)
                    replace H5 := Aside0.mk (tI.K_below hb6 H5.out)
                    replace H6 := Aside0.mk (Kd.C_below H6.out hb6)
                    have H8 := Aside0.mk (show W6.heap[W5.heap.size]? = some (.cells #[.int .i64 0, .float .f64 0, .string ⟨#[]⟩, .slice none 0 0] 30 (0, 0)) by rw [hW6.out]; exact heap_alloc_new _ _)
                    have HZ := Aside0.mk (show W5.heap.size < W6.heap.size by rw [hW6.out]; simp)
                    have HG := Aside0.mk hHeld.size
                    refine hK.out _ _ ((below_step hHeld hb6)) (fun hHeld => ?_)
                    clear hK K
                    refine norm_ (a' := ?_) ?_ ?_
                    rotate_left
                    · show Act.put _ (some 14) _ = _
                      simp only [Act.put, List.setIfInBounds_toArray, List.set_cons_zero, List.set_cons_succ, i64_w, i32_w]
                      rfl
                    refine one_ (i := 7) (N := some 53) #[true, true, true, true, true, true, true, true, true, false] rfl rfl (by kernel_rfl) (by decide) (fun K hK => ?_)
                    have HLs := Aside0.mk hHeld.size
                    refine goes_ Try.func6 (by kernel_rfl) rfl #[.slice (some ⟨W4.heap.size, 0, none⟩) 2 2] (by rfl) rfl rfl (by simp only [List.map_toArray, List.map_cons, List.map_nil]; rfl) ?_
                    with_reducible refine (implMul (turnM (gridM lb k c) k c) (turnM (gridM la r k) r k) c k r FT.out _ _ _ H6.out).mono ?_
                    rintro e W7 ⟨cs, rfl, hM, hb7⟩
                    refine ⟨_, rfl, ?_⟩
                    obtain ⟨kq7, xq7, sq7, Aq7, nq7, cq7, rfl⟩ := shapeI _ _ _ _ (Kd.K_of_M _ hM)
                    replace H1 := Aside0.mk (Kd.C_below H1.out hb7)
                    replace H2 := Aside0.mk (tI.K_below hb7 H2.out)
                    replace H4 := Aside0.mk (Kd.C_below H4.out hb7)
                    replace H5 := Aside0.mk (tI.K_below hb7 H5.out)
                    replace H6 := Aside0.mk (Kd.C_below H6.out hb7)
                    replace H8 := Aside0.mk (blk_below H8.out hb7)
                    have hZ0 := HZ.out
                    replace HZ := Aside0.mk (Nat.lt_of_lt_of_le HZ.out hb7.size)
                    have H7 := Aside0.mk (tI.M_mono (ok' := fun q => W6.heap.size ≤ q ∧ q < W7.heap.size) (fun q hq => ⟨hq.2.1, hq.2.2.1⟩) (tI.M_bound hM))
                    have HQ := Aside0.mk (show ∀ q, W6.heap.size ≤ q ∧ q < W7.heap.size → q ≠ W5.heap.size from fun q hq => by have := hZ0; omega)
                    refine hK.out _ _ ((below_step hHeld hb7)) (fun hHeld => ?_)
                    clear hK K
                    refine norm_ (a' := ?_) ?_ ?_
                    rotate_left
                    · show Act.put _ (some 53) _ = _
                      simp only [Act.put, List.setIfInBounds_toArray, List.set_cons_zero, List.set_cons_succ, i64_w, i32_w]
                      rfl
                    exact norm_ (by simp only [putAll, Act.put, List.setIfInBounds_toArray, List.set_cons_zero, List.set_cons_succ]) (hCont (W5.heap.size, .slice (some ⟨W0.heap.size, 0, none⟩) 1 1, .agg #[.int .i64 kq2, .float .f64 xq2, .string sq2, .slice Aq2 nq2 cq2], .slice (some ⟨W2.heap.size, 0, none⟩) 1 1, .agg #[.int .i64 kq5, .float .f64 xq5, .string sq5, .slice Aq5 nq5 cq5], .slice (some ⟨W4.heap.size, 0, none⟩) 2 2, .agg #[.int .i64 kq7, .float .f64 xq7, .string sq7, .slice Aq7 nq7 cq7]) _ ⟨hHeld, HG.out, H8.out, _, rfl, tI.M_mono HQ.out (Kd.M_lower tI HLs.out H7.out)⟩)
                · skip
                  refine value_ (w1 := ?_) (v := ?_) (by rfl) rfl ?_ ?_
                  rotate_left 2
                  · go_simp
                    constructor
                    · rfl
                    · rfl
                  obtain ⟨W5, hW5⟩ : ∃ W', Aside0 (W' = W4.alloc (Obj.cells #[.int .i64 0, .float .f64 0, .string ⟨#[]⟩, .slice none 0 0] 30)) := ⟨_, ⟨rfl⟩⟩
                  rw [← hW5.out]
                  have hb5 : Below W4.heap.size W4 W5 := by rw [hW5.out]; exact (Below.refl _ _).alloc (Nat.le_refl _) _
                  replace H1 := Aside0.mk (Kd.C_below H1.out hb5)
                  replace H2 := Aside0.mk (tI.K_below hb5 H2.out)
                  replace H4 := Aside0.mk (Kd.C_below H4.out hb5)
                  replace H5 := Aside0.mk (tI.K_below hb5 H5.out)
                  have H8 := Aside0.mk (show W5.heap[W4.heap.size]? = some (.cells #[.int .i64 0, .float .f64 0, .string ⟨#[]⟩, .slice none 0 0] 30 (0, 0)) by rw [hW5.out]; exact heap_alloc_new _ _)
                  have HZ := Aside0.mk (show W4.heap.size < W5.heap.size by rw [hW5.out]; simp)
                  have HG := Aside0.mk hHeld.size
                  refine hK.out _ _ ((below_step hHeld hb5)) (fun hHeld => ?_)
                  clear hK K
                  refine norm_ (a' := ?_) ?_ ?_
                  rotate_left
                  · show Act.put _ (some 14) _ = _
                    simp only [Act.put, List.setIfInBounds_toArray, List.set_cons_zero, List.set_cons_succ, i64_w, i32_w]
                    rfl
                  refine one_ (i := 6) (N := some 52) #[true, true, true, true, true, true, true, false, true, false] rfl rfl (by kernel_rfl) (by decide) (fun K hK => ?_)
                  refine value_ (w1 := ?_) (v := ?_) (by rfl) rfl ?_ ?_
                  rotate_left 2
                  · go_simp
                    constructor
                    · rfl
                    · rfl
                  obtain ⟨W6, hW6⟩ : ∃ W', Aside0 (W' = W5.alloc (Obj.cells #[.int .i64 kq2, .float .f64 xq2, .string sq2, .slice Aq2 nq2 cq2, .int .i64 kq5, .float .f64 xq5, .string sq5, .slice Aq5 nq5 cq5] 30)) := ⟨_, ⟨rfl⟩⟩
                  rw [← hW6.out]
                  have hb6 : Below W5.heap.size W5 W6 := by rw [hW6.out]; exact (Below.refl _ _).alloc (Nat.le_refl _) _
                  replace H1 := Aside0.mk (Kd.C_below H1.out hb6)
                  replace H2 := Aside0.mk (tI.K_below hb6 H2.out)
                  replace H4 := Aside0.mk (Kd.C_below H4.out hb6)
                  replace H5 := Aside0.mk (tI.K_below hb6 H5.out)
                  replace H8 := Aside0.mk (blk_below H8.out hb6)
                  replace HZ := Aside0.mk (Nat.lt_of_lt_of_le HZ.out hb6.size)
                  have H6 := Aside0.mk (C_two tI (show W6.heap[W5.heap.size]? = some (.cells (([.int .i64 kq2, .float .f64 xq2, .string sq2, .slice Aq2 nq2 cq2] : List Value) ++ ([.int .i64 kq5, .float .f64 xq5, .string sq5, .slice Aq5 nq5 cq5] : List Value)).toArray 30 (0, 0)) by rw [hW6.out]; exact heap_alloc_new _ _) H2.out H5.out)
                  refine hK.out _ _ ((below_step hHeld hb6)) (fun hHeld => ?_)
                  clear hK K
                  refine norm_ (a' := ?_) ?_ ?_
                  rotate_left
                  · show Act.put _ (some 52) _ = _
                    simp only [Act.put, List.setIfInBounds_toArray, List.set_cons_zero, List.set_cons_succ, i64_w, i32_w]
                    rfl
                  refine one_ (i := 7) (N := some 53) #[true, true, true, true, true, true, true, true, true, false] rfl rfl (by kernel_rfl) (by decide) (fun K hK => ?_)
                  have HLs := Aside0.mk hHeld.size
                  refine goes_ Try.func6 (by kernel_rfl) rfl #[.slice (some ⟨W5.heap.size, 0, none⟩) 2 2] (by rfl) rfl rfl (by simp only [List.map_toArray, List.map_cons, List.map_nil]; rfl) ?_
                  with_reducible refine (implMul (turnM (gridM lb k c) k c) (turnM (gridM la r k) r k) c k r FT.out _ _ _ H6.out).mono ?_
                  rintro e W7 ⟨cs, rfl, hM, hb7⟩
                  refine ⟨_, rfl, ?_⟩
                  obtain ⟨kq7, xq7, sq7, Aq7, nq7, cq7, rfl⟩ := shapeI _ _ _ _ (Kd.K_of_M _ hM)
                  replace H1 := Aside0.mk (Kd.C_below H1.out hb7)
                  replace H2 := Aside0.mk (tI.K_below hb7 H2.out)
                  replace H4 := Aside0.mk (Kd.C_below H4.out hb7)
                  replace H5 := Aside0.mk (tI.K_below hb7 H5.out)
                  replace H8 := Aside0.mk (blk_below H8.out hb7)
                  have hZ0 := HZ.out
                  replace HZ := Aside0.mk (Nat.lt_of_lt_of_le HZ.out hb7.size)
                  replace H6 := Aside0.mk (Kd.C_below H6.out hb7)
                  have H7 := Aside0.mk (tI.M_mono (ok' := fun q => W6.heap.size ≤ q ∧ q < W7.heap.size) (fun q hq => ⟨hq.2.1, hq.2.2.1⟩) (tI.M_bound hM))
                  have HQ := Aside0.mk (show ∀ q, W6.heap.size ≤ q ∧ q < W7.heap.size → q ≠ W4.heap.size from fun q hq => by have := hZ0; omega)
                  refine hK.out _ _ ((below_step hHeld hb7)) (fun hHeld => ?_)
                  clear hK K
                  refine norm_ (a' := ?_) ?_ ?_
                  rotate_left
                  · show Act.put _ (some 53) _ = _
                    simp only [Act.put, List.setIfInBounds_toArray, List.set_cons_zero, List.set_cons_succ, i64_w, i32_w]
                    rfl
                  exact norm_ (by simp only [putAll, Act.put, List.setIfInBounds_toArray, List.set_cons_zero, List.set_cons_succ]) (hCont (W4.heap.size, .slice (some ⟨W0.heap.size, 0, none⟩) 1 1, .agg #[.int .i64 kq2, .float .f64 xq2, .string sq2, .slice Aq2 nq2 cq2], .slice (some ⟨W2.heap.size, 0, none⟩) 1 1, .agg #[.int .i64 kq5, .float .f64 xq5, .string sq5, .slice Aq5 nq5 cq5], .slice (some ⟨W5.heap.size, 0, none⟩) 2 2, .agg #[.int .i64 kq7, .float .f64 xq7, .string sq7, .slice Aq7 nq7 cq7]) _ ⟨hHeld, HG.out, H8.out, _, rfl, tI.M_mono HQ.out (Kd.M_lower tI HLs.out H7.out)⟩)
              · skip
                refine value_ (w1 := ?_) (v := ?_) (by rfl) rfl ?_ ?_
                rotate_left 2
                · go_simp
                  constructor
                  · rfl
                  · rfl
                obtain ⟨W4, hW4⟩ : ∃ W', Aside0 (W' = W3.alloc (Obj.cells #[.int .i64 0, .float .f64 0, .string ⟨#[]⟩, .slice none 0 0] 30)) := ⟨_, ⟨rfl⟩⟩
                rw [← hW4.out]
                have hb4 : Below W3.heap.size W3 W4 := by rw [hW4.out]; exact (Below.refl _ _).alloc (Nat.le_refl _) _
                replace H1 := Aside0.mk (Kd.C_below H1.out hb4)
                replace H2 := Aside0.mk (tI.K_below hb4 H2.out)
                replace H4 := Aside0.mk (Kd.C_below H4.out hb4)
                have H8 := Aside0.mk (show W4.heap[W3.heap.size]? = some (.cells #[.int .i64 0, .float .f64 0, .string ⟨#[]⟩, .slice none 0 0] 30 (0, 0)) by rw [hW4.out]; exact heap_alloc_new _ _)
                have HZ := Aside0.mk (show W3.heap.size < W4.heap.size by rw [hW4.out]; simp)
                have HG := Aside0.mk hHeld.size
                refine hK.out _ _ ((below_step hHeld hb4)) (fun hHeld => ?_)
                clear hK K
                refine norm_ (a' := ?_) ?_ ?_
                rotate_left
                · show Act.put _ (some 14) _ = _
                  simp only [Act.put, List.setIfInBounds_toArray, List.set_cons_zero, List.set_cons_succ, i64_w, i32_w]
                  rfl
                refine one_ (i := 5) (N := some 51) #[true, true, true, true, true, true, false, false, true, false] rfl rfl (by kernel_rfl) (by decide) (fun K hK => ?_)
                refine goes_ Try.func7 (by kernel_rfl) rfl #[.func (.func 11) #[] #[], .slice (some ⟨W2.heap.size, 0, none⟩) 1 1] (by rfl) rfl rfl (by simp only [List.map_toArray, List.map_cons, List.map_nil]; rfl) ?_
                with_reducible refine (askTurn (gridM la r k) r k FX.out _ _ _ H4.out).mono ?_
                rintro e W5 ⟨cs, rfl, hM, hb5⟩
                refine ⟨_, rfl, ?_⟩
                obtain ⟨kq5, xq5, sq5, Aq5, nq5, cq5, rfl⟩ := shapeI _ _ _ _ (Kd.K_of_M _ hM)
                replace H1 := Aside0.mk (Kd.C_below H1.out hb5)
                replace H2 := Aside0.mk (tI.K_below hb5 H2.out)
                replace H4 := Aside0.mk (Kd.C_below H4.out hb5)
                replace H8 := Aside0.mk (blk_below H8.out hb5)
                replace HZ := Aside0.mk (Nat.lt_of_lt_of_le HZ.out hb5.size)
                have H5 := Aside0.mk (Kd.K_of_M _ hM)
                refine hK.out _ _ ((below_step hHeld hb5)) (fun hHeld => ?_)
                clear hK K
                refine norm_ (a' := ?_) ?_ ?_
                rotate_left
                · show Act.put _ (some 51) _ = _
                  simp only [Act.put, List.setIfInBounds_toArray, List.set_cons_zero, List.set_cons_succ, i64_w, i32_w]
                  rfl
                refine one_ (i := 6) (N := some 52) #[true, true, true, true, true, true, true, false, true, false] rfl rfl (by kernel_rfl) (by decide) (fun K hK => ?_)
                refine value_ (w1 := ?_) (v := ?_) (by rfl) rfl ?_ ?_
                rotate_left 2
                · go_simp
                  constructor
                  · rfl
                  · rfl
                obtain ⟨W6, hW6⟩ : ∃ W', Aside0 (W' = W5.alloc (Obj.cells #[.int .i64 kq2, .float .f64 xq2, .string sq2, .slice Aq2 nq2 cq2, .int .i64 kq5, .float .f64 xq5, .string sq5, .slice Aq5 nq5 cq5] 30)) := ⟨_, ⟨rfl⟩⟩
                rw [← hW6.out]
                have hb6 : Below W5.heap.size W5 W6 := by rw [hW6.out]; exact (Below.refl _ _).alloc (Nat.le_refl _) _
                replace H1 := Aside0.mk (Kd.C_below H1.out hb6)
                replace H2 := Aside0.mk (tI.K_below hb6 H2.out)
                replace H4 := Aside0.mk (Kd.C_below H4.out hb6)
                replace H8 := Aside0.mk (blk_below H8.out hb6)
                replace HZ := Aside0.mk (Nat.lt_of_lt_of_le HZ.out hb6.size)
                replace H5 := Aside0.mk (tI.K_below hb6 H5.out)
                have H6 := Aside0.mk (C_two tI (show W6.heap[W5.heap.size]? = some (.cells (([.int .i64 kq2, .float .f64 xq2, .string sq2, .slice Aq2 nq2 cq2] : List Value) ++ ([.int .i64 kq5, .float .f64 xq5, .string sq5, .slice Aq5 nq5 cq5] : List Value)).toArray 30 (0, 0)) by rw [hW6.out]; exact heap_alloc_new _ _) H2.out H5.out)
                refine hK.out _ _ ((below_step hHeld hb6)) (fun hHeld => ?_)
                clear hK K
                refine norm_ (a' := ?_) ?_ ?_
                rotate_left
                · show Act.put _ (some 52) _ = _
                  simp only [Act.put, List.setIfInBounds_toArray, List.set_cons_zero, List.set_cons_succ, i64_w, i32_w]
                  rfl
                refine one_ (i := 7) (N := some 53) #[true, true, true, true, true, true, true, true, true, false] rfl rfl (by kernel_rfl) (by decide) (fun K hK => ?_)
                have HLs := Aside0.mk hHeld.size
                refine goes_ Try.func6 (by kernel_rfl) rfl #[.slice (some ⟨W5.heap.size, 0, none⟩) 2 2] (by rfl) rfl rfl (by simp only [List.map_toArray, List.map_cons, List.map_nil]; rfl) ?_
                with_reducible refine (implMul (turnM (gridM lb k c) k c) (turnM (gridM la r k) r k) c k r FT.out _ _ _ H6.out).mono ?_
                rintro e W7 ⟨cs, rfl, hM, hb7⟩
                refine ⟨_, rfl, ?_⟩
                obtain ⟨kq7, xq7, sq7, Aq7, nq7, cq7, rfl⟩ := shapeI _ _ _ _ (Kd.K_of_M _ hM)
                replace H1 := Aside0.mk (Kd.C_below H1.out hb7)
                replace H2 := Aside0.mk (tI.K_below hb7 H2.out)
                replace H4 := Aside0.mk (Kd.C_below H4.out hb7)
                replace H8 := Aside0.mk (blk_below H8.out hb7)
                have hZ0 := HZ.out
                replace HZ := Aside0.mk (Nat.lt_of_lt_of_le HZ.out hb7.size)
                replace H5 := Aside0.mk (tI.K_below hb7 H5.out)
                replace H6 := Aside0.mk (Kd.C_below H6.out hb7)
                have H7 := Aside0.mk (tI.M_mono (ok' := fun q => W6.heap.size ≤ q ∧ q < W7.heap.size) (fun q hq => ⟨hq.2.1, hq.2.2.1⟩) (tI.M_bound hM))
                have HQ := Aside0.mk (show ∀ q, W6.heap.size ≤ q ∧ q < W7.heap.size → q ≠ W3.heap.size from fun q hq => by have := hZ0; omega)
                refine hK.out _ _ ((below_step hHeld hb7)) (fun hHeld => ?_)
                clear hK K
                refine norm_ (a' := ?_) ?_ ?_
                rotate_left
                · show Act.put _ (some 53) _ = _
                  simp only [Act.put, List.setIfInBounds_toArray, List.set_cons_zero, List.set_cons_succ, i64_w, i32_w]
                  rfl
                exact norm_ (by simp only [putAll, Act.put, List.setIfInBounds_toArray, List.set_cons_zero, List.set_cons_succ]) (hCont (W3.heap.size, .slice (some ⟨W0.heap.size, 0, none⟩) 1 1, .agg #[.int .i64 kq2, .float .f64 xq2, .string sq2, .slice Aq2 nq2 cq2], .slice (some ⟨W2.heap.size, 0, none⟩) 1 1, .agg #[.int .i64 kq5, .float .f64 xq5, .string sq5, .slice Aq5 nq5 cq5], .slice (some ⟨W5.heap.size, 0, none⟩) 2 2, .agg #[.int .i64 kq7, .float .f64 xq7, .string sq7, .slice Aq7 nq7 cq7]) _ ⟨hHeld, HG.out, H8.out, _, rfl, tI.M_mono HQ.out (Kd.M_lower tI HLs.out H7.out)⟩)
            · skip
              refine value_ (w1 := ?_) (v := ?_) (by rfl) rfl ?_ ?_
              rotate_left 2
              · go_simp
                constructor
                · rfl
                · rfl
              obtain ⟨W3, hW3⟩ : ∃ W', Aside0 (W' = W2.alloc (Obj.cells #[.int .i64 0, .float .f64 0, .string ⟨#[]⟩, .slice none 0 0] 30)) := ⟨_, ⟨rfl⟩⟩
              rw [← hW3.out]
              have hb3 : Below W2.heap.size W2 W3 := by rw [hW3.out]; exact (Below.refl _ _).alloc (Nat.le_refl _) _
              replace H1 := Aside0.mk (Kd.C_below H1.out hb3)
              replace H2 := Aside0.mk (tI.K_below hb3 H2.out)
              have H8 := Aside0.mk (show W3.heap[W2.heap.size]? = some (.cells #[.int .i64 0, .float .f64 0, .string ⟨#[]⟩, .slice none 0 0] 30 (0, 0)) by rw [hW3.out]; exact heap_alloc_new _ _)
              have HZ := Aside0.mk (show W2.heap.size < W3.heap.size by rw [hW3.out]; simp)
              have HG := Aside0.mk hHeld.size
              refine hK.out _ _ ((below_step hHeld hb3)) (fun hHeld => ?_)
              clear hK K
              refine norm_ (a' := ?_) ?_ ?_
              rotate_left
              · show Act.put _ (some 14) _ = _
                simp only [Act.put, List.setIfInBounds_toArray, List.set_cons_zero, List.set_cons_succ, i64_w, i32_w]
                rfl
              refine one_ (i := 4) (N := some 50) #[true, true, true, true, true, false, false, false, true, false] rfl rfl (by kernel_rfl) (by decide) (fun K hK => ?_)
              refine value_ (w1 := ?_) (v := ?_) (by rfl) rfl ?_ ?_
              rotate_left 2
              · go_simp
                constructor
                · rfl
                · rfl
              obtain ⟨W4, hW4⟩ : ∃ W', Aside0 (W' = W3.alloc (Obj.cells #[.int .i64 5, .int .i64 0, .int .i64 0, .string ⟨#[]⟩, .slice B1 n1 d1] 25)) := ⟨_, ⟨rfl⟩⟩
              rw [← hW4.out]
              have hb4 : Below W3.heap.size W3 W4 := by rw [hW4.out]; exact (Below.refl _ _).alloc (Nat.le_refl _) _
              replace H1 := Aside0.mk (Kd.C_below H1.out hb4)
              replace H2 := Aside0.mk (tI.K_below hb4 H2.out)
              replace H8 := Aside0.mk (blk_below H8.out hb4)
              replace HZ := Aside0.mk (Nat.lt_of_lt_of_le HZ.out hb4.size)
              have H4 := Aside0.mk (C_one tS (show W4.heap[W3.heap.size]? = some (.cells (([.int .i64 5, .int .i64 0, .int .i64 0, .string ⟨#[]⟩, .slice B1 n1 d1] : List Value)).toArray 25 (0, 0)) by rw [hW4.out]; exact heap_alloc_new _ _) (tS.K_below (below_step hHeld hb4) HK1.out))
              refine hK.out _ _ ((below_step hHeld hb4)) (fun hHeld => ?_)
              clear hK K
              refine norm_ (a' := ?_) ?_ ?_
              rotate_left
              · show Act.put _ (some 50) _ = _
                simp only [Act.put, List.setIfInBounds_toArray, List.set_cons_zero, List.set_cons_succ, i64_w, i32_w]
                rfl
              refine one_ (i := 5) (N := some 51) #[true, true, true, true, true, true, false, false, true, false] rfl rfl (by kernel_rfl) (by decide) (fun K hK => ?_)
              refine goes_ Try.func7 (by kernel_rfl) rfl #[.func (.func 11) #[] #[], .slice (some ⟨W3.heap.size, 0, none⟩) 1 1] (by rfl) rfl rfl (by simp only [List.map_toArray, List.map_cons, List.map_nil]; rfl) ?_
              with_reducible refine (askTurn (gridM la r k) r k FX.out _ _ _ H4.out).mono ?_
              rintro e W5 ⟨cs, rfl, hM, hb5⟩
              refine ⟨_, rfl, ?_⟩
              obtain ⟨kq5, xq5, sq5, Aq5, nq5, cq5, rfl⟩ := shapeI _ _ _ _ (Kd.K_of_M _ hM)
              replace H1 := Aside0.mk (Kd.C_below H1.out hb5)
              replace H2 := Aside0.mk (tI.K_below hb5 H2.out)
              replace H8 := Aside0.mk (blk_below H8.out hb5)
              replace HZ := Aside0.mk (Nat.lt_of_lt_of_le HZ.out hb5.size)
              replace H4 := Aside0.mk (Kd.C_below H4.out hb5)
              have H5 := Aside0.mk (Kd.K_of_M _ hM)
              refine hK.out _ _ ((below_step hHeld hb5)) (fun hHeld => ?_)
              clear hK K
              refine norm_ (a' := ?_) ?_ ?_
              rotate_left
              · show Act.put _ (some 51) _ = _
                simp only [Act.put, List.setIfInBounds_toArray, List.set_cons_zero, List.set_cons_succ, i64_w, i32_w]
                rfl
              refine one_ (i := 6) (N := some 52) #[true, true, true, true, true, true, true, false, true, false] rfl rfl (by kernel_rfl) (by decide) (fun K hK => ?_)
              refine value_ (w1 := ?_) (v := ?_) (by rfl) rfl ?_ ?_
              rotate_left 2
              · go_simp
                constructor
                · rfl
                · rfl
              obtain ⟨W6, hW6⟩ : ∃ W', Aside0 (W' = W5.alloc (Obj.cells #[.int .i64 kq2, .float .f64 xq2, .string sq2, .slice Aq2 nq2 cq2, .int .i64 kq5, .float .f64 xq5, .string sq5, .slice Aq5 nq5 cq5] 30)) := ⟨_, ⟨rfl⟩⟩
              rw [← hW6.out]
              have hb6 : Below W5.heap.size W5 W6 := by rw [hW6.out]; exact (Below.refl _ _).alloc (Nat.le_refl _) _
              replace H1 := Aside0.mk (Kd.C_below H1.out hb6)
              replace H2 := Aside0.mk (tI.K_below hb6 H2.out)
              replace H8 := Aside0.mk (blk_below H8.out hb6)
              replace HZ := Aside0.mk (Nat.lt_of_lt_of_le HZ.out hb6.size)
              replace H4 := Aside0.mk (Kd.C_below H4.out hb6)
              replace H5 := Aside0.mk (tI.K_below hb6 H5.out)
              have H6 := Aside0.mk (C_two tI (show W6.heap[W5.heap.size]? = some (.cells (([.int .i64 kq2, .float .f64 xq2, .string sq2, .slice Aq2 nq2 cq2] : List Value) ++ ([.int .i64 kq5, .float .f64 xq5, .string sq5, .slice Aq5 nq5 cq5] : List Value)).toArray 30 (0, 0)) by rw [hW6.out]; exact heap_alloc_new _ _) H2.out H5.out)
              refine hK.out _ _ ((below_step hHeld hb6)) (fun hHeld => ?_)
              clear hK K
              refine norm_ (a' := ?_) ?_ ?_
              rotate_left
              · show Act.put _ (some 52) _ = _
                simp only [Act.put, List.setIfInBounds_toArray, List.set_cons_zero, List.set_cons_succ, i64_w, i32_w]
                rfl
              refine one_ (i := 7) (N := some 53) #[true, true, true, true, true, true, true, true, true, false] rfl rfl (by kernel_rfl) (by decide) (fun K hK => ?_)
              have HLs := Aside0.mk hHeld.size
              refine goes_ Try.func6 (by kernel_rfl) rfl #[.slice (some ⟨W5.heap.size, 0, none⟩) 2 2] (by rfl) rfl rfl (by simp only [List.map_toArray, List.map_cons, List.map_nil]; rfl) ?_
              with_reducible refine (implMul (turnM (gridM lb k c) k c) (turnM (gridM la r k) r k) c k r FT.out _ _ _ H6.out).mono ?_
              rintro e W7 ⟨cs, rfl, hM, hb7⟩
              refine ⟨_, rfl, ?_⟩
              obtain ⟨kq7, xq7, sq7, Aq7, nq7, cq7, rfl⟩ := shapeI _ _ _ _ (Kd.K_of_M _ hM)
              replace H1 := Aside0.mk (Kd.C_below H1.out hb7)
              replace H2 := Aside0.mk (tI.K_below hb7 H2.out)
              replace H8 := Aside0.mk (blk_below H8.out hb7)
              have hZ0 := HZ.out
              replace HZ := Aside0.mk (Nat.lt_of_lt_of_le HZ.out hb7.size)
              replace H4 := Aside0.mk (Kd.C_below H4.out hb7)
              replace H5 := Aside0.mk (tI.K_below hb7 H5.out)
              replace H6 := Aside0.mk (Kd.C_below H6.out hb7)
              have H7 := Aside0.mk (tI.M_mono (ok' := fun q => W6.heap.size ≤ q ∧ q < W7.heap.size) (fun q hq => ⟨hq.2.1, hq.2.2.1⟩) (tI.M_bound hM))
              have HQ := Aside0.mk (show ∀ q, W6.heap.size ≤ q ∧ q < W7.heap.size → q ≠ W2.heap.size from fun q hq => by have := hZ0; omega)
              refine hK.out _ _ ((below_step hHeld hb7)) (fun hHeld => ?_)
              clear hK K
              refine norm_ (a' := ?_) ?_ ?_
              rotate_left
              · show Act.put _ (some 53) _ = _
                simp only [Act.put, List.setIfInBounds_toArray, List.set_cons_zero, List.set_cons_succ, i64_w, i32_w]
                rfl
              exact norm_ (by simp only [putAll, Act.put, List.setIfInBounds_toArray, List.set_cons_zero, List.set_cons_succ]) (hCont (W2.heap.size, .slice (some ⟨W0.heap.size, 0, none⟩) 1 1, .agg #[.int .i64 kq2, .float .f64 xq2, .string sq2, .slice Aq2 nq2 cq2], .slice (some ⟨W3.heap.size, 0, none⟩) 1 1, .agg #[.int .i64 kq5, .float .f64 xq5, .string sq5, .slice Aq5 nq5 cq5], .slice (some ⟨W5.heap.size, 0, none⟩) 2 2, .agg #[.int .i64 kq7, .float .f64 xq7, .string sq7, .slice Aq7 nq7 cq7]) _ ⟨hHeld, HG.out, H8.out, _, rfl, tI.M_mono HQ.out (Kd.M_lower tI HLs.out H7.out)⟩)
          · skip
            refine value_ (w1 := ?_) (v := ?_) (by rfl) rfl ?_ ?_
            rotate_left 2
            · go_simp
              constructor
              · rfl
              · rfl
            obtain ⟨W2, hW2⟩ : ∃ W', Aside0 (W' = W1.alloc (Obj.cells #[.int .i64 5, .int .i64 0, .int .i64 0, .string ⟨#[]⟩, .slice B1 n1 d1] 25)) := ⟨_, ⟨rfl⟩⟩
            rw [← hW2.out]
            have hb2 : Below W1.heap.size W1 W2 := by rw [hW2.out]; exact (Below.refl _ _).alloc (Nat.le_refl _) _
            replace H1 := Aside0.mk (Kd.C_below H1.out hb2)
            have H4 := Aside0.mk (C_one tS (show W2.heap[W1.heap.size]? = some (.cells (([.int .i64 5, .int .i64 0, .int .i64 0, .string ⟨#[]⟩, .slice B1 n1 d1] : List Value)).toArray 25 (0, 0)) by rw [hW2.out]; exact heap_alloc_new _ _) (tS.K_below (below_step hHeld hb2) HK1.out))
            refine hK.out _ _ ((below_step hHeld hb2)) (fun hHeld => ?_)
            clear hK K
            refine norm_ (a' := ?_) ?_ ?_
            rotate_left
            · show Act.put _ (some 50) _ = _
              simp only [Act.put, List.setIfInBounds_toArray, List.set_cons_zero, List.set_cons_succ, i64_w, i32_w]
              rfl
            refine two_ (i := 2) (j := 8) (Ni := some 48) (Nj := some 14) #[true, true, true, true, true, false, false, false, false, false] #[true, true, false, true, true, false, false, false, true, false] rfl rfl rfl rfl (by kernel_rfl) (by decide) (by decide) (fun K hK => ?_) (fun K hK => ?_)
            · skip
              refine goes_ Try.func7 (by kernel_rfl) rfl #[.func (.func 11) #[] #[], .slice (some ⟨W0.heap.size, 0, none⟩) 1 1] (by rfl) rfl rfl (by simp only [List.map_toArray, List.map_cons, List.map_nil]; rfl) ?_
              with_reducible refine (askTurn (gridM lb k c) k c FY.out _ _ _ H1.out).mono ?_
              rintro e W3 ⟨cs, rfl, hM, hb3⟩
              refine ⟨_, rfl, ?_⟩
              obtain ⟨kq2, xq2, sq2, Aq2, nq2, cq2, rfl⟩ := shapeI _ _ _ _ (Kd.K_of_M _ hM)
              replace H1 := Aside0.mk (Kd.C_below H1.out hb3)
              replace H4 := Aside0.mk (Kd.C_below H4.out hb3)
              have H2 := Aside0.mk (Kd.K_of_M _ hM)
              refine hK.out _ _ ((below_step hHeld hb3)) (fun hHeld => ?_)
              clear hK K
              refine norm_ (a' := ?_) ?_ ?_
              rotate_left
              · show Act.put _ (some 48) _ = _
                simp only [Act.put, List.setIfInBounds_toArray, List.set_cons_zero, List.set_cons_succ, i64_w, i32_w]
                rfl
              refine two_ (i := 5) (j := 8) (Ni := some 51) (Nj := some 14) #[true, true, true, true, true, true, false, false, false, false] #[true, true, true, true, true, false, false, false, true, false] rfl rfl rfl rfl (by kernel_rfl) (by decide) (by decide) (fun K hK => ?_) (fun K hK => ?_)
              · skip
                refine goes_ Try.func7 (by kernel_rfl) rfl #[.func (.func 11) #[] #[], .slice (some ⟨W1.heap.size, 0, none⟩) 1 1] (by rfl) rfl rfl (by simp only [List.map_toArray, List.map_cons, List.map_nil]; rfl) ?_
                with_reducible refine (askTurn (gridM la r k) r k FX.out _ _ _ H4.out).mono ?_
                rintro e W4 ⟨cs, rfl, hM, hb4⟩
                refine ⟨_, rfl, ?_⟩
                obtain ⟨kq5, xq5, sq5, Aq5, nq5, cq5, rfl⟩ := shapeI _ _ _ _ (Kd.K_of_M _ hM)
                replace H1 := Aside0.mk (Kd.C_below H1.out hb4)
                replace H4 := Aside0.mk (Kd.C_below H4.out hb4)
                replace H2 := Aside0.mk (tI.K_below hb4 H2.out)
                have H5 := Aside0.mk (Kd.K_of_M _ hM)
                refine hK.out _ _ ((below_step hHeld hb4)) (fun hHeld => ?_)
                clear hK K
                refine norm_ (a' := ?_) ?_ ?_
                rotate_left
                · show Act.put _ (some 51) _ = _
                  simp only [Act.put, List.setIfInBounds_toArray, List.set_cons_zero, List.set_cons_succ, i64_w, i32_w]
                  rfl
                refine two_ (i := 6) (j := 8) (Ni := some 52) (Nj := some 14) #[true, true, true, true, true, true, true, false, false, false] #[true, true, true, true, true, true, false, false, true, false] rfl rfl rfl rfl (by kernel_rfl) (by decide) (by decide) (fun K hK => ?_) (fun K hK => ?_)
                · skip
                  refine value_ (w1 := ?_) (v := ?_) (by rfl) rfl ?_ ?_
                  rotate_left 2
                  · go_simp
                    constructor
                    · rfl
                    · rfl
                  obtain ⟨W5, hW5⟩ : ∃ W', Aside0 (W' = W4.alloc (Obj.cells #[.int .i64 kq2, .float .f64 xq2, .string sq2, .slice Aq2 nq2 cq2, .int .i64 kq5, .float .f64 xq5, .string sq5, .slice Aq5 nq5 cq5] 30)) := ⟨_, ⟨rfl⟩⟩
                  rw [← hW5.out]
                  have hb5 : Below W4.heap.size W4 W5 := by rw [hW5.out]; exact (Below.refl _ _).alloc (Nat.le_refl _) _
                  replace H1 := Aside0.mk (Kd.C_below H1.out hb5)
                  replace H4 := Aside0.mk (Kd.C_below H4.out hb5)
                  replace H2 := Aside0.mk (tI.K_below hb5 H2.out)
                  replace H5 := Aside0.mk (tI.K_below hb5 H5.out)
                  have H6 := Aside0.mk (C_two tI (show W5.heap[W4.heap.size]? = some (.cells (([.int .i64 kq2, .float .f64 xq2, .string sq2, .slice Aq2 nq2 cq2] : List Value) ++ ([.int .i64 kq5, .float .f64 xq5, .string sq5, .slice Aq5 nq5 cq5] : List Value)).toArray 30 (0, 0)) by rw [hW5.out]; exact heap_alloc_new _ _) H2.out H5.out)
                  refine hK.out _ _ ((below_step hHeld hb5)) (fun hHeld => ?_)
                  clear hK K
                  refine norm_ (a' := ?_) ?_ ?_
                  rotate_left
                  · show Act.put _ (some 52) _ = _
                    simp only [Act.put, List.setIfInBounds_toArray, List.set_cons_zero, List.set_cons_succ, i64_w, i32_w]
                    rfl
                  refine two_ (i := 7) (j := 8) (Ni := some 53) (Nj := some 14) #[true, true, true, true, true, true, true, true, false, false] #[true, true, true, true, true, true, true, false, true, false] rfl rfl rfl rfl (by kernel_rfl) (by decide) (by decide) (fun K hK => ?_) (fun K hK => ?_)
                  · skip
                    have HLs := Aside0.mk hHeld.size
                    refine goes_ Try.func6 (by kernel_rfl) rfl #[.slice (some ⟨W4.heap.size, 0, none⟩) 2 2] (by rfl) rfl rfl (by simp only [List.map_toArray, List.map_cons, List.map_nil]; rfl) ?_
                    with_reducible refine (implMul (turnM (gridM lb k c) k c) (turnM (gridM la r k) r k) c k r FT.out _ _ _ H6.out).mono ?_
                    rintro e W6 ⟨cs, rfl, hM, hb6⟩
                    refine ⟨_, rfl, ?_⟩
                    obtain ⟨kq7, xq7, sq7, Aq7, nq7, cq7, rfl⟩ := shapeI _ _ _ _ (Kd.K_of_M _ hM)
                    replace H1 := Aside0.mk (Kd.C_below H1.out hb6)
                    replace H4 := Aside0.mk (Kd.C_below H4.out hb6)
                    replace H2 := Aside0.mk (tI.K_below hb6 H2.out)
                    replace H5 := Aside0.mk (tI.K_below hb6 H5.out)
                    replace H6 := Aside0.mk (Kd.C_below H6.out hb6)
                    have H7 := Aside0.mk (tI.M_mono (ok' := fun q => W5.heap.size ≤ q ∧ q < W6.heap.size) (fun q hq => ⟨hq.2.1, hq.2.2.1⟩) (tI.M_bound hM))
                    refine hK.out _ _ ((below_step hHeld hb6)) (fun hHeld => ?_)
                    clear hK K
                    refine norm_ (a' := ?_) ?_ ?_
                    rotate_left
                    · show Act.put _ (some 53) _ = _
                      simp only [Act.put, List.setIfInBounds_toArray, List.set_cons_zero, List.set_cons_succ, i64_w, i32_w]
                      rfl
                    refine one_ (i := 8) (N := some 14) #[true, true, true, true, true, true, true, true, true, false] rfl rfl (by kernel_rfl) (by decide) (fun K hK => ?_)
                    refine value_ (w1 := ?_) (v := ?_) (by rfl) rfl ?_ ?_
                    rotate_left 2
                    · go_simp
                      constructor
                      · rfl
                      · rfl
                    obtain ⟨W7, hW7⟩ : ∃ W', Aside0 (W' = W6.alloc (Obj.cells #[.int .i64 0, .float .f64 0, .string ⟨#[]⟩, .slice none 0 0] 30)) := ⟨_, ⟨rfl⟩⟩
                    rw [← hW7.out]
                    have hb7 : Below W6.heap.size W6 W7 := by rw [hW7.out]; exact (Below.refl _ _).alloc (Nat.le_refl _) _
                    replace H1 := Aside0.mk (Kd.C_below H1.out hb7)
                    replace H4 := Aside0.mk (Kd.C_below H4.out hb7)
                    replace H2 := Aside0.mk (tI.K_below hb7 H2.out)
                    replace H5 := Aside0.mk (tI.K_below hb7 H5.out)
                    replace H6 := Aside0.mk (Kd.C_below H6.out hb7)
                    replace H7 := Aside0.mk (Kd.M_below H7.out hb7)
                    have H8 := Aside0.mk (show W7.heap[W6.heap.size]? = some (.cells #[.int .i64 0, .float .f64 0, .string ⟨#[]⟩, .slice none 0 0] 30 (0, 0)) by rw [hW7.out]; exact heap_alloc_new _ _)
                    have HZ := Aside0.mk (show W6.heap.size < W7.heap.size by rw [hW7.out]; simp)
                    have HG := Aside0.mk hHeld.size
                    have HQ := Aside0.mk (show ∀ q, W5.heap.size ≤ q ∧ q < W6.heap.size → q ≠ W6.heap.size from fun q hq => by omega)
                    refine hK.out _ _ ((below_step hHeld hb7)) (fun hHeld => ?_)
                    clear hK K
                    refine norm_ (a' := ?_) ?_ ?_
                    rotate_left
                    · show Act.put _ (some 14) _ = _
                      simp only [Act.put, List.setIfInBounds_toArray, List.set_cons_zero, List.set_cons_succ, i64_w, i32_w]
                      rfl
                    exact norm_ (by simp only [putAll, Act.put, List.setIfInBounds_toArray, List.set_cons_zero, List.set_cons_succ]) (hCont (W6.heap.size, .slice (some ⟨W0.heap.size, 0, none⟩) 1 1, .agg #[.int .i64 kq2, .float .f64 xq2, .string sq2, .slice Aq2 nq2 cq2], .slice (some ⟨W1.heap.size, 0, none⟩) 1 1, .agg #[.int .i64 kq5, .float .f64 xq5, .string sq5, .slice Aq5 nq5 cq5], .slice (some ⟨W4.heap.size, 0, none⟩) 2 2, .agg #[.int .i64 kq7, .float .f64 xq7, .string sq7, .slice Aq7 nq7 cq7]) _ ⟨hHeld, HG.out, H8.out, _, rfl, tI.M_mono HQ.out (Kd.M_lower tI HLs.out H7.out)⟩)
                  · skip
                    refine value_ (w1 := ?_) (v := ?_) (by rfl) rfl ?_ ?_
                    rotate_left 2
                    · go_simp
                      constructor
                      · rfl
                      · rfl
                    obtain ⟨W6, hW6⟩ : ∃ W', Aside0 (W' = W5.alloc (Obj.cells #[.int .i64 0, .float .f64 0, .string ⟨#[]⟩, .slice none 0 0] 30)) := ⟨_, ⟨rfl⟩⟩
                    rw [← hW6.out]
                    have hb6 : Below W5.heap.size W5 W6 := by rw [hW6.out]; exact (Below.refl _ _).alloc (Nat.le_refl _) _
                    replace H1 := Aside0.mk (Kd.C_below H1.out hb6)
                    replace H4 := Aside0.mk (Kd.C_below H4.out hb6)
                    replace H2 := Aside0.mk (tI.K_below hb6 H2.out)
                    replace H5 := Aside0.mk (tI.K_below hb6 H5.out)
                    replace H6 := Aside0.mk (Kd.C_below H6.out hb6)
                    have H8 := Aside0.mk (show W6.heap[W5.heap.size]? = some (.cells #[.int .i64 0, .float .f64 0, .string ⟨#[]⟩, .slice none 0 0] 30 (0, 0)) by rw [hW6.out]; exact heap_alloc_new _ _)
                    have HZ := Aside0.mk (show W5.heap.size < W6.heap.size by rw [hW6.out]; simp)
                    have HG := Aside0.mk hHeld.size
                    refine hK.out _ _ ((below_step hHeld hb6)) (fun hHeld => ?_)
                    clear hK K
                    refine norm_ (a' := ?_) ?_ ?_
                    rotate_left
                    · show Act.put _ (some 14) _ = _
                      simp only [Act.put, List.setIfInBounds_toArray, List.set_cons_zero, List.set_cons_succ, i64_w, i32_w]
                      rfl
                    refine one_ (i := 7) (N := some 53) #[true, true, true, true, true, true, true, true, true, false] rfl rfl (by kernel_rfl) (by decide) (fun K hK => ?_)
                    have HLs := Aside0.mk hHeld.size
                    refine goes_ Try.func6 (by kernel_rfl) rfl #[.slice (some ⟨W4.heap.size, 0, none⟩) 2 2] (by rfl) rfl rfl (by simp only [List.map_toArray, List.map_cons, List.map_nil]; rfl) ?_
                    with_reducible refine (implMul (turnM (gridM lb k c) k c) (turnM (gridM la r k) r k) c k r FT.out _ _ _ H6.out).mono ?_
                    rintro e W7 ⟨cs, rfl, hM, hb7⟩
                    refine ⟨_, rfl, ?_⟩
                    obtain ⟨kq7, xq7, sq7, Aq7, nq7, cq7, rfl⟩ := shapeI _ _ _ _ (Kd.K_of_M _ hM)
                    replace H1 := Aside0.mk (Kd.C_below H1.out hb7)
                    replace H4 := Aside0.mk (Kd.C_below H4.out hb7)
                    replace H2 := Aside0.mk (tI.K_below hb7 H2.out)
                    replace H5 := Aside0.mk (tI.K_below hb7 H5.out)
                    replace H6 := Aside0.mk (Kd.C_below H6.out hb7)
                    replace H8 := Aside0.mk (blk_below H8.out hb7)
                    have hZ0 := HZ.out
                    replace HZ := Aside0.mk (Nat.lt_of_lt_of_le HZ.out hb7.size)
                    have H7 := Aside0.mk (tI.M_mono (ok' := fun q => W6.heap.size ≤ q ∧ q < W7.heap.size) (fun q hq => ⟨hq.2.1, hq.2.2.1⟩) (tI.M_bound hM))
                    have HQ := Aside0.mk (show ∀ q, W6.heap.size ≤ q ∧ q < W7.heap.size → q ≠ W5.heap.size from fun q hq => by have := hZ0; omega)
                    refine hK.out _ _ ((below_step hHeld hb7)) (fun hHeld => ?_)
                    clear hK K
                    refine norm_ (a' := ?_) ?_ ?_
                    rotate_left
                    · show Act.put _ (some 53) _ = _
                      simp only [Act.put, List.setIfInBounds_toArray, List.set_cons_zero, List.set_cons_succ, i64_w, i32_w]
                      rfl
                    exact norm_ (by simp only [putAll, Act.put, List.setIfInBounds_toArray, List.set_cons_zero, List.set_cons_succ]) (hCont (W5.heap.size, .slice (some ⟨W0.heap.size, 0, none⟩) 1 1, .agg #[.int .i64 kq2, .float .f64 xq2, .string sq2, .slice Aq2 nq2 cq2], .slice (some ⟨W1.heap.size, 0, none⟩) 1 1, .agg #[.int .i64 kq5, .float .f64 xq5, .string sq5, .slice Aq5 nq5 cq5], .slice (some ⟨W4.heap.size, 0, none⟩) 2 2, .agg #[.int .i64 kq7, .float .f64 xq7, .string sq7, .slice Aq7 nq7 cq7]) _ ⟨hHeld, HG.out, H8.out, _, rfl, tI.M_mono HQ.out (Kd.M_lower tI HLs.out H7.out)⟩)
                · skip
                  refine value_ (w1 := ?_) (v := ?_) (by rfl) rfl ?_ ?_
                  rotate_left 2
                  · go_simp
                    constructor
                    · rfl
                    · rfl
                  obtain ⟨W5, hW5⟩ : ∃ W', Aside0 (W' = W4.alloc (Obj.cells #[.int .i64 0, .float .f64 0, .string ⟨#[]⟩, .slice none 0 0] 30)) := ⟨_, ⟨rfl⟩⟩
                  rw [← hW5.out]
                  have hb5 : Below W4.heap.size W4 W5 := by rw [hW5.out]; exact (Below.refl _ _).alloc (Nat.le_refl _) _
                  replace H1 := Aside0.mk (Kd.C_below H1.out hb5)
                  replace H4 := Aside0.mk (Kd.C_below H4.out hb5)
                  replace H2 := Aside0.mk (tI.K_below hb5 H2.out)
                  replace H5 := Aside0.mk (tI.K_below hb5 H5.out)
                  have H8 := Aside0.mk (show W5.heap[W4.heap.size]? = some (.cells #[.int .i64 0, .float .f64 0, .string ⟨#[]⟩, .slice none 0 0] 30 (0, 0)) by rw [hW5.out]; exact heap_alloc_new _ _)
                  have HZ := Aside0.mk (show W4.heap.size < W5.heap.size by rw [hW5.out]; simp)
                  have HG := Aside0.mk hHeld.size
                  refine hK.out _ _ ((below_step hHeld hb5)) (fun hHeld => ?_)
                  clear hK K
                  refine norm_ (a' := ?_) ?_ ?_
                  rotate_left
                  · show Act.put _ (some 14) _ = _
                    simp only [Act.put, List.setIfInBounds_toArray, List.set_cons_zero, List.set_cons_succ, i64_w, i32_w]
                    rfl
                  refine one_ (i := 6) (N := some 52) #[true, true, true, true, true, true, true, false, true, false] rfl rfl (by kernel_rfl) (by decide) (fun K hK => ?_)
                  refine value_ (w1 := ?_) (v := ?_) (by rfl) rfl ?_ ?_
                  rotate_left 2
                  · go_simp
                    constructor
                    · rfl
                    · rfl
                  obtain ⟨W6, hW6⟩ : ∃ W', Aside0 (W' = W5.alloc (Obj.cells #[.int .i64 kq2, .float .f64 xq2, .string sq2, .slice Aq2 nq2 cq2, .int .i64 kq5, .float .f64 xq5, .string sq5, .slice Aq5 nq5 cq5] 30)) := ⟨_, ⟨rfl⟩⟩
                  rw [← hW6.out]
                  have hb6 : Below W5.heap.size W5 W6 := by rw [hW6.out]; exact (Below.refl _ _).alloc (Nat.le_refl _) _
                  replace H1 := Aside0.mk (Kd.C_below H1.out hb6)
                  replace H4 := Aside0.mk (Kd.C_below H4.out hb6)
                  replace H2 := Aside0.mk (tI.K_below hb6 H2.out)
                  replace H5 := Aside0.mk (tI.K_below hb6 H5.out)
                  replace H8 := Aside0.mk (blk_below H8.out hb6)
                  replace HZ := Aside0.mk (Nat.lt_of_lt_of_le HZ.out hb6.size)
                  have H6 := Aside0.mk (C_two tI (show W6.heap[W5.heap.size]? = some (.cells (([.int .i64 kq2, .float .f64 xq2, .string sq2, .slice Aq2 nq2 cq2] : List Value) ++ ([.int .i64 kq5, .float .f64 xq5, .string sq5, .slice Aq5 nq5 cq5] : List Value)).toArray 30 (0, 0)) by rw [hW6.out]; exact heap_alloc_new _ _) H2.out H5.out)
                  refine hK.out _ _ ((below_step hHeld hb6)) (fun hHeld => ?_)
                  clear hK K
                  refine norm_ (a' := ?_) ?_ ?_
                  rotate_left
                  · show Act.put _ (some 52) _ = _
                    simp only [Act.put, List.setIfInBounds_toArray, List.set_cons_zero, List.set_cons_succ, i64_w, i32_w]
                    rfl
                  refine one_ (i := 7) (N := some 53) #[true, true, true, true, true, true, true, true, true, false] rfl rfl (by kernel_rfl) (by decide) (fun K hK => ?_)
                  have HLs := Aside0.mk hHeld.size
                  refine goes_ Try.func6 (by kernel_rfl) rfl #[.slice (some ⟨W5.heap.size, 0, none⟩) 2 2] (by rfl) rfl rfl (by simp only [List.map_toArray, List.map_cons, List.map_nil]; rfl) ?_
                  with_reducible refine (implMul (turnM (gridM lb k c) k c) (turnM (gridM la r k) r k) c k r FT.out _ _ _ H6.out).mono ?_
                  rintro e W7 ⟨cs, rfl, hM, hb7⟩
                  refine ⟨_, rfl, ?_⟩
                  obtain ⟨kq7, xq7, sq7, Aq7, nq7, cq7, rfl⟩ := shapeI _ _ _ _ (Kd.K_of_M _ hM)
                  replace H1 := Aside0.mk (Kd.C_below H1.out hb7)
                  replace H4 := Aside0.mk (Kd.C_below H4.out hb7)
                  replace H2 := Aside0.mk (tI.K_below hb7 H2.out)
                  replace H5 := Aside0.mk (tI.K_below hb7 H5.out)
                  replace H8 := Aside0.mk (blk_below H8.out hb7)
                  have hZ0 := HZ.out
                  replace HZ := Aside0.mk (Nat.lt_of_lt_of_le HZ.out hb7.size)
                  replace H6 := Aside0.mk (Kd.C_below H6.out hb7)
                  have H7 := Aside0.mk (tI.M_mono (ok' := fun q => W6.heap.size ≤ q ∧ q < W7.heap.size) (fun q hq => ⟨hq.2.1, hq.2.2.1⟩) (tI.M_bound hM))
                  have HQ := Aside0.mk (show ∀ q, W6.heap.size ≤ q ∧ q < W7.heap.size → q ≠ W4.heap.size from fun q hq => by have := hZ0; omega)
                  refine hK.out _ _ ((below_step hHeld hb7)) (fun hHeld => ?_)
                  clear hK K
                  refine norm_ (a' := ?_) ?_ ?_
                  rotate_left
                  · show Act.put _ (some 53) _ = _
                    simp only [Act.put, List.setIfInBounds_toArray, List.set_cons_zero, List.set_cons_succ, i64_w, i32_w]
                    rfl
                  exact norm_ (by simp only [putAll, Act.put, List.setIfInBounds_toArray, List.set_cons_zero, List.set_cons_succ]) (hCont (W4.heap.size, .slice (some ⟨W0.heap.size, 0, none⟩) 1 1, .agg #[.int .i64 kq2, .float .f64 xq2, .string sq2, .slice Aq2 nq2 cq2], .slice (some ⟨W1.heap.size, 0, none⟩) 1 1, .agg #[.int .i64 kq5, .float .f64 xq5, .string sq5, .slice Aq5 nq5 cq5], .slice (some ⟨W5.heap.size, 0, none⟩) 2 2, .agg #[.int .i64 kq7, .float .f64 xq7, .string sq7, .slice Aq7 nq7 cq7]) _ ⟨hHeld, HG.out, H8.out, _, rfl, tI.M_mono HQ.out (Kd.M_lower tI HLs.out H7.out)⟩)
              · skip
                refine value_ (w1 := ?_) (v := ?_) (by rfl) rfl ?_ ?_
                rotate_left 2
                · go_simp
                  constructor
                  · rfl
                  · rfl
                obtain ⟨W4, hW4⟩ : ∃ W', Aside0 (W' = W3.alloc (Obj.cells #[.int .i64 0, .float .f64 0, .string ⟨#[]⟩, .slice none 0 0] 30)) := ⟨_, ⟨rfl⟩⟩
                rw [← hW4.out]
                have hb4 : Below W3.heap.size W3 W4 := by rw [hW4.out]; exact (Below.refl _ _).alloc (Nat.le_refl _) _
                replace H1 := Aside0.mk (Kd.C_below H1.out hb4)
                replace H4 := Aside0.mk (Kd.C_below H4.out hb4)
                replace H2 := Aside0.mk (tI.K_below hb4 H2.out)
                have H8 := Aside0.mk (show W4.heap[W3.heap.size]? = some (.cells #[.int .i64 0, .float .f64 0, .string ⟨#[]⟩, .slice none 0 0] 30 (0, 0)) by rw [hW4.out]; exact heap_alloc_new _ _)
                have HZ := Aside0.mk (show W3.heap.size < W4.heap.size by rw [hW4.out]; simp)
                have HG := Aside0.mk hHeld.size
                refine hK.out _ _ ((below_step hHeld hb4)) (fun hHeld => ?_)
                clear hK K
                refine norm_ (a' := ?_) ?_ ?_
                rotate_left
                · show Act.put _ (some 14) _ = _
                  simp only [Act.put, List.setIfInBounds_toArray, List.set_cons_zero, List.set_cons_succ, i64_w, i32_w]
                  rfl
                refine one_ (i := 5) (N := some 51) #[true, true, true, true, true, true, false, false, true, false] rfl rfl (by kernel_rfl) (by decide) (fun K hK => ?_)
                refine goes_ Try.func7 (by kernel_rfl) rfl #[.func (.func 11) #[] #[], .slice (some ⟨W1.heap.size, 0, none⟩) 1 1] (by rfl) rfl rfl (by simp only [List.map_toArray, List.map_cons, List.map_nil]; rfl) ?_
                with_reducible refine (askTurn (gridM la r k) r k FX.out _ _ _ H4.out).mono ?_
                rintro e W5 ⟨cs, rfl, hM, hb5⟩
                refine ⟨_, rfl, ?_⟩
                obtain ⟨kq5, xq5, sq5, Aq5, nq5, cq5, rfl⟩ := shapeI _ _ _ _ (Kd.K_of_M _ hM)
                replace H1 := Aside0.mk (Kd.C_below H1.out hb5)
                replace H4 := Aside0.mk (Kd.C_below H4.out hb5)
                replace H2 := Aside0.mk (tI.K_below hb5 H2.out)
                replace H8 := Aside0.mk (blk_below H8.out hb5)
                replace HZ := Aside0.mk (Nat.lt_of_lt_of_le HZ.out hb5.size)
                have H5 := Aside0.mk (Kd.K_of_M _ hM)
                refine hK.out _ _ ((below_step hHeld hb5)) (fun hHeld => ?_)
                clear hK K
                refine norm_ (a' := ?_) ?_ ?_
                rotate_left
                · show Act.put _ (some 51) _ = _
                  simp only [Act.put, List.setIfInBounds_toArray, List.set_cons_zero, List.set_cons_succ, i64_w, i32_w]
                  rfl
                refine one_ (i := 6) (N := some 52) #[true, true, true, true, true, true, true, false, true, false] rfl rfl (by kernel_rfl) (by decide) (fun K hK => ?_)
                refine value_ (w1 := ?_) (v := ?_) (by rfl) rfl ?_ ?_
                rotate_left 2
                · go_simp
                  constructor
                  · rfl
                  · rfl
                obtain ⟨W6, hW6⟩ : ∃ W', Aside0 (W' = W5.alloc (Obj.cells #[.int .i64 kq2, .float .f64 xq2, .string sq2, .slice Aq2 nq2 cq2, .int .i64 kq5, .float .f64 xq5, .string sq5, .slice Aq5 nq5 cq5] 30)) := ⟨_, ⟨rfl⟩⟩
                rw [← hW6.out]
                have hb6 : Below W5.heap.size W5 W6 := by rw [hW6.out]; exact (Below.refl _ _).alloc (Nat.le_refl _) _
                replace H1 := Aside0.mk (Kd.C_below H1.out hb6)
                replace H4 := Aside0.mk (Kd.C_below H4.out hb6)
                replace H2 := Aside0.mk (tI.K_below hb6 H2.out)
                replace H8 := Aside0.mk (blk_below H8.out hb6)
                replace HZ := Aside0.mk (Nat.lt_of_lt_of_le HZ.out hb6.size)
                replace H5 := Aside0.mk (tI.K_below hb6 H5.out)
                have H6 := Aside0.mk (C_two tI (show W6.heap[W5.heap.size]? = some (.cells (([.int .i64 kq2, .float .f64 xq2, .string sq2, .slice Aq2 nq2 cq2] : List Value) ++ ([.int .i64 kq5, .float .f64 xq5, .string sq5, .slice Aq5 nq5 cq5] : List Value)).toArray 30 (0, 0)) by rw [hW6.out]; exact heap_alloc_new _ _) H2.out H5.out)
                refine hK.out _ _ ((below_step hHeld hb6)) (fun hHeld => ?_)
                clear hK K
                refine norm_ (a' := ?_) ?_ ?_
                rotate_left
                · show Act.put _ (some 52) _ = _
                  simp only [Act.put, List.setIfInBounds_toArray, List.set_cons_zero, List.set_cons_succ, i64_w, i32_w]
                  rfl
                refine one_ (i := 7) (N := some 53) #[true, true, true, true, true, true, true, true, true, false] rfl rfl (by kernel_rfl) (by decide) (fun K hK => ?_)
                have HLs := Aside0.mk hHeld.size
                refine goes_ Try.func6 (by kernel_rfl) rfl #[.slice (some ⟨W5.heap.size, 0, none⟩) 2 2] (by rfl) rfl rfl (by simp only [List.map_toArray, List.map_cons, List.map_nil]; rfl) ?_
                with_reducible refine (implMul (turnM (gridM lb k c) k c) (turnM (gridM la r k) r k) c k r FT.out _ _ _ H6.out).mono ?_
                rintro e W7 ⟨cs, rfl, hM, hb7⟩
                refine ⟨_, rfl, ?_⟩
                obtain ⟨kq7, xq7, sq7, Aq7, nq7, cq7, rfl⟩ := shapeI _ _ _ _ (Kd.K_of_M _ hM)
                replace H1 := Aside0.mk (Kd.C_below H1.out hb7)
                replace H4 := Aside0.mk (Kd.C_below H4.out hb7)
                replace H2 := Aside0.mk (tI.K_below hb7 H2.out)
                replace H8 := Aside0.mk (blk_below H8.out hb7)
                have hZ0 := HZ.out
                replace HZ := Aside0.mk (Nat.lt_of_lt_of_le HZ.out hb7.size)
                replace H5 := Aside0.mk (tI.K_below hb7 H5.out)
                replace H6 := Aside0.mk (Kd.C_below H6.out hb7)
                have H7 := Aside0.mk (tI.M_mono (ok' := fun q => W6.heap.size ≤ q ∧ q < W7.heap.size) (fun q hq => ⟨hq.2.1, hq.2.2.1⟩) (tI.M_bound hM))
                have HQ := Aside0.mk (show ∀ q, W6.heap.size ≤ q ∧ q < W7.heap.size → q ≠ W3.heap.size from fun q hq => by have := hZ0; omega)
                refine hK.out _ _ ((below_step hHeld hb7)) (fun hHeld => ?_)
                clear hK K
                refine norm_ (a' := ?_) ?_ ?_
                rotate_left
                · show Act.put _ (some 53) _ = _
                  simp only [Act.put, List.setIfInBounds_toArray, List.set_cons_zero, List.set_cons_succ, i64_w, i32_w]
                  rfl
                exact norm_ (by simp only [putAll, Act.put, List.setIfInBounds_toArray, List.set_cons_zero, List.set_cons_succ]) (hCont (W3.heap.size, .slice (some ⟨W0.heap.size, 0, none⟩) 1 1, .agg #[.int .i64 kq2, .float .f64 xq2, .string sq2, .slice Aq2 nq2 cq2], .slice (some ⟨W1.heap.size, 0, none⟩) 1 1, .agg #[.int .i64 kq5, .float .f64 xq5, .string sq5, .slice Aq5 nq5 cq5], .slice (some ⟨W5.heap.size, 0, none⟩) 2 2, .agg #[.int .i64 kq7, .float .f64 xq7, .string sq7, .slice Aq7 nq7 cq7]) _ ⟨hHeld, HG.out, H8.out, _, rfl, tI.M_mono HQ.out (Kd.M_lower tI HLs.out H7.out)⟩)
            · skip
              refine value_ (w1 := ?_) (v := ?_) (by rfl) rfl ?_ ?_
              rotate_left 2
              · go_simp
                constructor
                · rfl
                · rfl
              obtain ⟨W3, hW3⟩ : ∃ W', Aside0 (W' = W2.alloc (Obj.cells #[.int .i64 0, .float .f64 0, .string ⟨#[]⟩, .slice none 0 0] 30)) := ⟨_, ⟨rfl⟩⟩
              rw [← hW3.out]
              have hb3 : Below W2.heap.size W2 W3 := by rw [hW3.out]; exact (Below.refl _ _).alloc (Nat.le_refl _) _
              replace H1 := Aside0.mk (Kd.C_below H1.out hb3)
              replace H4 := Aside0.mk (Kd.C_below H4.out hb3)
              have H8 := Aside0.mk (show W3.heap[W2.heap.size]? = some (.cells #[.int .i64 0, .float .f64 0, .string ⟨#[]⟩, .slice none 0 0] 30 (0, 0)) by rw [hW3.out]; exact heap_alloc_new _ _)
              have HZ := Aside0.mk (show W2.heap.size < W3.heap.size by rw [hW3.out]; simp)
              have HG := Aside0.mk hHeld.size
              refine hK.out _ _ ((below_step hHeld hb3)) (fun hHeld => ?_)
              clear hK K
              refine norm_ (a' := ?_) ?_ ?_
              rotate_left
              · show Act.put _ (some 14) _ = _
                simp only [Act.put, List.setIfInBounds_toArray, List.set_cons_zero, List.set_cons_succ, i64_w, i32_w]
                rfl
              refine one_ (i := 2) (N := some 48) #[true, true, true, true, true, false, false, false, true, false] rfl rfl (by kernel_rfl) (by decide) (fun K hK => ?_)
              refine goes_ Try.func7 (by kernel_rfl) rfl #[.func (.func 11) #[] #[], .slice (some ⟨W0.heap.size, 0, none⟩) 1 1] (by rfl) rfl rfl (by simp only [List.map_toArray, List.map_cons, List.map_nil]; rfl) ?_
              with_reducible refine (askTurn (gridM lb k c) k c FY.out _ _ _ H1.out).mono ?_
              rintro e W4 ⟨cs, rfl, hM, hb4⟩
              refine ⟨_, rfl, ?_⟩
              obtain ⟨kq2, xq2, sq2, Aq2, nq2, cq2, rfl⟩ := shapeI _ _ _ _ (Kd.K_of_M _ hM)
              replace H1 := Aside0.mk (Kd.C_below H1.out hb4)
              replace H4 := Aside0.mk (Kd.C_below H4.out hb4)
              replace H8 := Aside0.mk (blk_below H8.out hb4)
              replace HZ := Aside0.mk (Nat.lt_of_lt_of_le HZ.out hb4.size)
              have H2 := Aside0.mk (Kd.K_of_M _ hM)
              refine hK.out _ _ ((below_step hHeld hb4)) (fun hHeld => ?_)
              clear hK K
              refine norm_ (a' := ?_) ?_ ?_
              rotate_left
              · show Act.put _ (some 48) _ = _
                simp only [Act.put, List.setIfInBounds_toArray, List.set_cons_zero, List.set_cons_succ, i64_w, i32_w]
                rfl
              refine one_ (i := 5) (N := some 51) #[true, true, true, true, true, true, false, false, true, false] rfl rfl (by kernel_rfl) (by decide) (fun K hK => ?_)
              refine goes_ Try.func7 (by kernel_rfl) rfl #[.func (.func 11) #[] #[], .slice (some ⟨W1.heap.size, 0, none⟩) 1 1] (by rfl) rfl rfl (by simp only [List.map_toArray, List.map_cons, List.map_nil]; rfl) ?_
              with_reducible refine (askTurn (gridM la r k) r k FX.out _ _ _ H4.out).mono ?_
              rintro e W5 ⟨cs, rfl, hM, hb5⟩
              refine ⟨_, rfl, ?_⟩
              obtain ⟨kq5, xq5, sq5, Aq5, nq5, cq5, rfl⟩ := shapeI _ _ _ _ (Kd.K_of_M _ hM)
              replace H1 := Aside0.mk (Kd.C_below H1.out hb5)
              replace H4 := Aside0.mk (Kd.C_below H4.out hb5)
              replace H8 := Aside0.mk (blk_below H8.out hb5)
              replace HZ := Aside0.mk (Nat.lt_of_lt_of_le HZ.out hb5.size)
              replace H2 := Aside0.mk (tI.K_below hb5 H2.out)
              have H5 := Aside0.mk (Kd.K_of_M _ hM)
              refine hK.out _ _ ((below_step hHeld hb5)) (fun hHeld => ?_)
              clear hK K
              refine norm_ (a' := ?_) ?_ ?_
              rotate_left
              · show Act.put _ (some 51) _ = _
                simp only [Act.put, List.setIfInBounds_toArray, List.set_cons_zero, List.set_cons_succ, i64_w, i32_w]
                rfl
              refine one_ (i := 6) (N := some 52) #[true, true, true, true, true, true, true, false, true, false] rfl rfl (by kernel_rfl) (by decide) (fun K hK => ?_)
              refine value_ (w1 := ?_) (v := ?_) (by rfl) rfl ?_ ?_
              rotate_left 2
              · go_simp
                constructor
                · rfl
                · rfl
              obtain ⟨W6, hW6⟩ : ∃ W', Aside0 (W' = W5.alloc (Obj.cells #[.int .i64 kq2, .float .f64 xq2, .string sq2, .slice Aq2 nq2 cq2, .int .i64 kq5, .float .f64 xq5, .string sq5, .slice Aq5 nq5 cq5] 30)) := ⟨_, ⟨rfl⟩⟩
              rw [← hW6.out]
              have hb6 : Below W5.heap.size W5 W6 := by rw [hW6.out]; exact (Below.refl _ _).alloc (Nat.le_refl _) _
              replace H1 := Aside0.mk (Kd.C_below H1.out hb6)
              replace H4 := Aside0.mk (Kd.C_below H4.out hb6)
              replace H8 := Aside0.mk (blk_below H8.out hb6)
              replace HZ := Aside0.mk (Nat.lt_of_lt_of_le HZ.out hb6.size)
              replace H2 := Aside0.mk (tI.K_below hb6 H2.out)
              replace H5 := Aside0.mk (tI.K_below hb6 H5.out)
              have H6 := Aside0.mk (C_two tI (show W6.heap[W5.heap.size]? = some (.cells (([.int .i64 kq2, .float .f64 xq2, .string sq2, .slice Aq2 nq2 cq2] : List Value) ++ ([.int .i64 kq5, .float .f64 xq5, .string sq5, .slice Aq5 nq5 cq5] : List Value)).toArray 30 (0, 0)) by rw [hW6.out]; exact heap_alloc_new _ _) H2.out H5.out)
              refine hK.out _ _ ((below_step hHeld hb6)) (fun hHeld => ?_)
              clear hK K
              refine norm_ (a' := ?_) ?_ ?_
              rotate_left
              · show Act.put _ (some 52) _ = _
                simp only [Act.put, List.setIfInBounds_toArray, List.set_cons_zero, List.set_cons_succ, i64_w, i32_w]
                rfl
              refine one_ (i := 7) (N := some 53) #[true, true, true, true, true, true, true, true, true, false] rfl rfl (by kernel_rfl) (by decide) (fun K hK => ?_)
              have HLs := Aside0.mk hHeld.size
              refine goes_ Try.func6 (by kernel_rfl) rfl #[.slice (some ⟨W5.heap.size, 0, none⟩) 2 2] (by rfl) rfl rfl (by simp only [List.map_toArray, List.map_cons, List.map_nil]; rfl) ?_
              with_reducible refine (implMul (turnM (gridM lb k c) k c) (turnM (gridM la r k) r k) c k r FT.out _ _ _ H6.out).mono ?_
              rintro e W7 ⟨cs, rfl, hM, hb7⟩
              refine ⟨_, rfl, ?_⟩
              obtain ⟨kq7, xq7, sq7, Aq7, nq7, cq7, rfl⟩ := shapeI _ _ _ _ (Kd.K_of_M _ hM)
              replace H1 := Aside0.mk (Kd.C_below H1.out hb7)
              replace H4 := Aside0.mk (Kd.C_below H4.out hb7)
              replace H8 := Aside0.mk (blk_below H8.out hb7)
              have hZ0 := HZ.out
              replace HZ := Aside0.mk (Nat.lt_of_lt_of_le HZ.out hb7.size)
              replace H2 := Aside0.mk (tI.K_below hb7 H2.out)
              replace H5 := Aside0.mk (tI.K_below hb7 H5.out)
              replace H6 := Aside0.mk (Kd.C_below H6.out hb7)
              have H7 := Aside0.mk (tI.M_mono (ok' := fun q => W6.heap.size ≤ q ∧ q < W7.heap.size) (fun q hq => ⟨hq.2.1, hq.2.2.1⟩) (tI.M_bound hM))
              have HQ := Aside0.mk (show ∀ q, W6.heap.size ≤ q ∧ q < W7.heap.size → q ≠ W2.heap.size from fun q hq => by have := hZ0; omega)
              refine hK.out _ _ ((below_step hHeld hb7)) (fun hHeld => ?_)
              clear hK K
              refine norm_ (a' := ?_) ?_ ?_
              rotate_left
              · show Act.put _ (some 53) _ = _
                simp only [Act.put, List.setIfInBounds_toArray, List.set_cons_zero, List.set_cons_succ, i64_w, i32_w]
                rfl
              exact norm_ (by simp only [putAll, Act.put, List.setIfInBounds_toArray, List.set_cons_zero, List.set_cons_succ]) (hCont (W2.heap.size, .slice (some ⟨W0.heap.size, 0, none⟩) 1 1, .agg #[.int .i64 kq2, .float .f64 xq2, .string sq2, .slice Aq2 nq2 cq2], .slice (some ⟨W1.heap.size, 0, none⟩) 1 1, .agg #[.int .i64 kq5, .float .f64 xq5, .string sq5, .slice Aq5 nq5 cq5], .slice (some ⟨W5.heap.size, 0, none⟩) 2 2, .agg #[.int .i64 kq7, .float .f64 xq7, .string sq7, .slice Aq7 nq7 cq7]) _ ⟨hHeld, HG.out, H8.out, _, rfl, tI.M_mono HQ.out (Kd.M_lower tI HLs.out H7.out)⟩)
          · skip
            refine value_ (w1 := ?_) (v := ?_) (by rfl) rfl ?_ ?_
            rotate_left 2
            · go_simp
              constructor
              · rfl
              · rfl
            obtain ⟨W2, hW2⟩ : ∃ W', Aside0 (W' = W1.alloc (Obj.cells #[.int .i64 0, .float .f64 0, .string ⟨#[]⟩, .slice none 0 0] 30)) := ⟨_, ⟨rfl⟩⟩
            rw [← hW2.out]
            have hb2 : Below W1.heap.size W1 W2 := by rw [hW2.out]; exact (Below.refl _ _).alloc (Nat.le_refl _) _
            replace H1 := Aside0.mk (Kd.C_below H1.out hb2)
            have H8 := Aside0.mk (show W2.heap[W1.heap.size]? = some (.cells #[.int .i64 0, .float .f64 0, .string ⟨#[]⟩, .slice none 0 0] 30 (0, 0)) by rw [hW2.out]; exact heap_alloc_new _ _)
            have HZ := Aside0.mk (show W1.heap.size < W2.heap.size by rw [hW2.out]; simp)
            have HG := Aside0.mk hHeld.size
            refine hK.out _ _ ((below_step hHeld hb2)) (fun hHeld => ?_)
            clear hK K
            refine norm_ (a' := ?_) ?_ ?_
            rotate_left
            · show Act.put _ (some 14) _ = _
              simp only [Act.put, List.setIfInBounds_toArray, List.set_cons_zero, List.set_cons_succ, i64_w, i32_w]
              rfl
            refine two_ (i := 2) (j := 4) (Ni := some 48) (Nj := some 50) #[true, true, true, true, false, false, false, false, true, false] #[true, true, false, true, true, false, false, false, true, false] rfl rfl rfl rfl (by kernel_rfl) (by decide) (by decide) (fun K hK => ?_) (fun K hK => ?_)
            · skip
              refine goes_ Try.func7 (by kernel_rfl) rfl #[.func (.func 11) #[] #[], .slice (some ⟨W0.heap.size, 0, none⟩) 1 1] (by rfl) rfl rfl (by simp only [List.map_toArray, List.map_cons, List.map_nil]; rfl) ?_
              with_reducible refine (askTurn (gridM lb k c) k c FY.out _ _ _ H1.out).mono ?_
              rintro e W3 ⟨cs, rfl, hM, hb3⟩
              refine ⟨_, rfl, ?_⟩
              obtain ⟨kq2, xq2, sq2, Aq2, nq2, cq2, rfl⟩ := shapeI _ _ _ _ (Kd.K_of_M _ hM)
              replace H1 := Aside0.mk (Kd.C_below H1.out hb3)
              replace H8 := Aside0.mk (blk_below H8.out hb3)
              replace HZ := Aside0.mk (Nat.lt_of_lt_of_le HZ.out hb3.size)
              have H2 := Aside0.mk (Kd.K_of_M _ hM)
              refine hK.out _ _ ((below_step hHeld hb3)) (fun hHeld => ?_)
              clear hK K
              refine norm_ (a' := ?_) ?_ ?_
              rotate_left
              · show Act.put _ (some 48) _ = _
                simp only [Act.put, List.setIfInBounds_toArray, List.set_cons_zero, List.set_cons_succ, i64_w, i32_w]
                rfl
              refine one_ (i := 4) (N := some 50) #[true, true, true, true, true, false, false, false, true, false] rfl rfl (by kernel_rfl) (by decide) (fun K hK => ?_)
              refine value_ (w1 := ?_) (v := ?_) (by rfl) rfl ?_ ?_
              rotate_left 2
              · go_simp
                constructor
                · rfl
                · rfl
              obtain ⟨W4, hW4⟩ : ∃ W', Aside0 (W' = W3.alloc (Obj.cells #[.int .i64 5, .int .i64 0, .int .i64 0, .string ⟨#[]⟩, .slice B1 n1 d1] 25)) := ⟨_, ⟨rfl⟩⟩
              rw [← hW4.out]
              have hb4 : Below W3.heap.size W3 W4 := by rw [hW4.out]; exact (Below.refl _ _).alloc (Nat.le_refl _) _
              replace H1 := Aside0.mk (Kd.C_below H1.out hb4)
              replace H8 := Aside0.mk (blk_below H8.out hb4)
              replace HZ := Aside0.mk (Nat.lt_of_lt_of_le HZ.out hb4.size)
              replace H2 := Aside0.mk (tI.K_below hb4 H2.out)
              have H4 := Aside0.mk (C_one tS (show W4.heap[W3.heap.size]? = some (.cells (([.int .i64 5, .int .i64 0, .int .i64 0, .string ⟨#[]⟩, .slice B1 n1 d1] : List Value)).toArray 25 (0, 0)) by rw [hW4.out]; exact heap_alloc_new _ _) (tS.K_below (below_step hHeld hb4) HK1.out))
              refine hK.out _ _ ((below_step hHeld hb4)) (fun hHeld => ?_)
              clear hK K
              refine norm_ (a' := ?_) ?_ ?_
              rotate_left
              · show Act.put _ (some 50) _ = _
                simp only [Act.put, List.setIfInBounds_toArray, List.set_cons_zero, List.set_cons_succ, i64_w, i32_w]
                rfl
              refine one_ (i := 5) (N := some 51) #[true, true, true, true, true, true, false, false, true, false] rfl rfl (by kernel_rfl) (by decide) (fun K hK => ?_)
              refine goes_ Try.func7 (by kernel_rfl) rfl #[.func (.func 11) #[] #[], .slice (some ⟨W3.heap.size, 0, none⟩) 1 1] (by rfl) rfl rfl (by simp only [List.map_toArray, List.map_cons, List.map_nil]; rfl) ?_
              with_reducible refine (askTurn (gridM la r k) r k FX.out _ _ _ H4.out).mono ?_
              rintro e W5 ⟨cs, rfl, hM, hb5⟩
              refine ⟨_, rfl, ?_⟩
              obtain ⟨kq5, xq5, sq5, Aq5, nq5, cq5, rfl⟩ := shapeI _ _ _ _ (Kd.K_of_M _ hM)
              replace H1 := Aside0.mk (Kd.C_below H1.out hb5)
              replace H8 := Aside0.mk (blk_below H8.out hb5)
              replace HZ := Aside0.mk (Nat.lt_of_lt_of_le HZ.out hb5.size)
              replace H2 := Aside0.mk (tI.K_below hb5 H2.out)
              replace H4 := Aside0.mk (Kd.C_below H4.out hb5)
              have H5 := Aside0.mk (Kd.K_of_M _ hM)
              refine hK.out _ _ ((below_step hHeld hb5)) (fun hHeld => ?_)
              clear hK K
              refine norm_ (a' := ?_) ?_ ?_
              rotate_left
              · show Act.put _ (some 51) _ = _
                simp only [Act.put, List.setIfInBounds_toArray, List.set_cons_zero, List.set_cons_succ, i64_w, i32_w]
                rfl
              refine one_ (i := 6) (N := some 52) #[true, true, true, true, true, true, true, false, true, false] rfl rfl (by kernel_rfl) (by decide) (fun K hK => ?_)
              refine value_ (w1 := ?_) (v := ?_) (by rfl) rfl ?_ ?_
              rotate_left 2
              · go_simp
                constructor
                · rfl
                · rfl
              obtain ⟨W6, hW6⟩ : ∃ W', Aside0 (W' = W5.alloc (Obj.cells #[.int .i64 kq2, .float .f64 xq2, .string sq2, .slice Aq2 nq2 cq2, .int .i64 kq5, .float .f64 xq5, .string sq5, .slice Aq5 nq5 cq5] 30)) := ⟨_, ⟨rfl⟩⟩
              rw [← hW6.out]
              have hb6 : Below W5.heap.size W5 W6 := by rw [hW6.out]; exact (Below.refl _ _).alloc (Nat.le_refl _) _
              replace H1 := Aside0.mk (Kd.C_below H1.out hb6)
              replace H8 := Aside0.mk (blk_below H8.out hb6)
              replace HZ := Aside0.mk (Nat.lt_of_lt_of_le HZ.out hb6.size)
              replace H2 := Aside0.mk (tI.K_below hb6 H2.out)
              replace H4 := Aside0.mk (Kd.C_below H4.out hb6)
              replace H5 := Aside0.mk (tI.K_below hb6 H5.out)
              have H6 := Aside0.mk (C_two tI (show W6.heap[W5.heap.size]? = some (.cells (([.int .i64 kq2, .float .f64 xq2, .string sq2, .slice Aq2 nq2 cq2] : List Value) ++ ([.int .i64 kq5, .float .f64 xq5, .string sq5, .slice Aq5 nq5 cq5] : List Value)).toArray 30 (0, 0)) by rw [hW6.out]; exact heap_alloc_new _ _) H2.out H5.out)
              refine hK.out _ _ ((below_step hHeld hb6)) (fun hHeld => ?_)
              clear hK K
              refine norm_ (a' := ?_) ?_ ?_
              rotate_left
              · show Act.put _ (some 52) _ = _
                simp only [Act.put, List.setIfInBounds_toArray, List.set_cons_zero, List.set_cons_succ, i64_w, i32_w]
                rfl
              refine one_ (i := 7) (N := some 53) #[true, true, true, true, true, true, true, true, true, false] rfl rfl (by kernel_rfl) (by decide) (fun K hK => ?_)
              have HLs := Aside0.mk hHeld.size
              refine goes_ Try.func6 (by kernel_rfl) rfl #[.slice (some ⟨W5.heap.size, 0, none⟩) 2 2] (by rfl) rfl rfl (by simp only [List.map_toArray, List.map_cons, List.map_nil]; rfl) ?_
              with_reducible refine (implMul (turnM (gridM lb k c) k c) (turnM (gridM la r k) r k) c k r FT.out _ _ _ H6.out).mono ?_
              rintro e W7 ⟨cs, rfl, hM, hb7⟩
              refine ⟨_, rfl, ?_⟩
              obtain ⟨kq7, xq7, sq7, Aq7, nq7, cq7, rfl⟩ := shapeI _ _ _ _ (Kd.K_of_M _ hM)
              replace H1 := Aside0.mk (Kd.C_below H1.out hb7)
              replace H8 := Aside0.mk (blk_below H8.out hb7)
              have hZ0 := HZ.out
              replace HZ := Aside0.mk (Nat.lt_of_lt_of_le HZ.out hb7.size)
              replace H2 := Aside0.mk (tI.K_below hb7 H2.out)
              replace H4 := Aside0.mk (Kd.C_below H4.out hb7)
              replace H5 := Aside0.mk (tI.K_below hb7 H5.out)
              replace H6 := Aside0.mk (Kd.C_below H6.out hb7)
              have H7 := Aside0.mk (tI.M_mono (ok' := fun q => W6.heap.size ≤ q ∧ q < W7.heap.size) (fun q hq => ⟨hq.2.1, hq.2.2.1⟩) (tI.M_bound hM))
              have HQ := Aside0.mk (show ∀ q, W6.heap.size ≤ q ∧ q < W7.heap.size → q ≠ W1.heap.size from fun q hq => by have := hZ0; omega)
              refine hK.out _ _ ((below_step hHeld hb7)) (fun hHeld => ?_)
              clear hK K
              refine norm_ (a' := ?_) ?_ ?_
              rotate_left
              · show Act.put _ (some 53) _ = _
                simp only [Act.put, List.setIfInBounds_toArray, List.set_cons_zero, List.set_cons_succ, i64_w, i32_w]
                rfl
              exact norm_ (by simp only [putAll, Act.put, List.setIfInBounds_toArray, List.set_cons_zero, List.set_cons_succ]) (hCont (W1.heap.size, .slice (some ⟨W0.heap.size, 0, none⟩) 1 1, .agg #[.int .i64 kq2, .float .f64 xq2, .string sq2, .slice Aq2 nq2 cq2], .slice (some ⟨W3.heap.size, 0, none⟩) 1 1, .agg #[.int .i64 kq5, .float .f64 xq5, .string sq5, .slice Aq5 nq5 cq5], .slice (some ⟨W5.heap.size, 0, none⟩) 2 2, .agg #[.int .i64 kq7, .float .f64 xq7, .string sq7, .slice Aq7 nq7 cq7]) _ ⟨hHeld, HG.out, H8.out, _, rfl, tI.M_mono HQ.out (Kd.M_lower tI HLs.out H7.out)⟩)
            · skip
              refine value_ (w1 := ?_) (v := ?_) (by rfl) rfl ?_ ?_
              rotate_left 2
              · go_simp
                constructor
                · rfl
                · rfl
              obtain ⟨W3, hW3⟩ : ∃ W', Aside0 (W' = W2.alloc (Obj.cells #[.int .i64 5, .int .i64 0, .int .i64 0, .string ⟨#[]⟩, .slice B1 n1 d1] 25)) := ⟨_, ⟨rfl⟩⟩
              rw [← hW3.out]
              have hb3 : Below W2.heap.size W2 W3 := by rw [hW3.out]; exact (Below.refl _ _).alloc (Nat.le_refl _) _
              replace H1 := Aside0.mk (Kd.C_below H1.out hb3)
              replace H8 := Aside0.mk (blk_below H8.out hb3)
              replace HZ := Aside0.mk (Nat.lt_of_lt_of_le HZ.out hb3.size)
              have H4 := Aside0.mk (C_one tS (show W3.heap[W2.heap.size]? = some (.cells (([.int .i64 5, .int .i64 0, .int .i64 0, .string ⟨#[]⟩, .slice B1 n1 d1] : List Value)).toArray 25 (0, 0)) by rw [hW3.out]; exact heap_alloc_new _ _) (tS.K_below (below_step hHeld hb3) HK1.out))
              refine hK.out _ _ ((below_step hHeld hb3)) (fun hHeld => ?_)
              clear hK K
              refine norm_ (a' := ?_) ?_ ?_
              rotate_left
              · show Act.put _ (some 50) _ = _
                simp only [Act.put, List.setIfInBounds_toArray, List.set_cons_zero, List.set_cons_succ, i64_w, i32_w]
                rfl
              refine one_ (i := 2) (N := some 48) #[true, true, true, true, true, false, false, false, true, false] rfl rfl (by kernel_rfl) (by decide) (fun K hK => ?_)
              refine goes_ Try.func7 (by kernel_rfl) rfl #[.func (.func 11) #[] #[], .slice (some ⟨W0.heap.size, 0, none⟩) 1 1] (by rfl) rfl rfl (by simp only [List.map_toArray, List.map_cons, List.map_nil]; rfl) ?_
              with_reducible refine (askTurn (gridM lb k c) k c FY.out _ _ _ H1.out).mono ?_
              rintro e W4 ⟨cs, rfl, hM, hb4⟩
              refine ⟨_, rfl, ?_⟩
              obtain ⟨kq2, xq2, sq2, Aq2, nq2, cq2, rfl⟩ := shapeI _ _ _ _ (Kd.K_of_M _ hM)
              replace H1 := Aside0.mk (Kd.C_below H1.out hb4)
              replace H8 := Aside0.mk (blk_below H8.out hb4)
              replace HZ := Aside0.mk (Nat.lt_of_lt_of_le HZ.out hb4.size)
              replace H4 := Aside0.mk (Kd.C_below H4.out hb4)
              have H2 := Aside0.mk (Kd.K_of_M _ hM)
              refine hK.out _ _ ((below_step hHeld hb4)) (fun hHeld => ?_)
              clear hK K
              refine norm_ (a' := ?_) ?_ ?_
              rotate_left
              · show Act.put _ (some 48) _ = _
                simp only [Act.put, List.setIfInBounds_toArray, List.set_cons_zero, List.set_cons_succ, i64_w, i32_w]
                rfl
              refine one_ (i := 5) (N := some 51) #[true, true, true, true, true, true, false, false, true, false] rfl rfl (by kernel_rfl) (by decide) (fun K hK => ?_)
              refine goes_ Try.func7 (by kernel_rfl) rfl #[.func (.func 11) #[] #[], .slice (some ⟨W2.heap.size, 0, none⟩) 1 1] (by rfl) rfl rfl (by simp only [List.map_toArray, List.map_cons, List.map_nil]; rfl) ?_
              with_reducible refine (askTurn (gridM la r k) r k FX.out _ _ _ H4.out).mono ?_
              rintro e W5 ⟨cs, rfl, hM, hb5⟩
              refine ⟨_, rfl, ?_⟩
              obtain ⟨kq5, xq5, sq5, Aq5, nq5, cq5, rfl⟩ := shapeI _ _ _ _ (Kd.K_of_M _ hM)
              replace H1 := Aside0.mk (Kd.C_below H1.out hb5)
              replace H8 := Aside0.mk (blk_below H8.out hb5)
              replace HZ := Aside0.mk (Nat.lt_of_lt_of_le HZ.out hb5.size)
              replace H4 := Aside0.mk (Kd.C_below H4.out hb5)
              replace H2 := Aside0.mk (tI.K_below hb5 H2.out)
              have H5 := Aside0.mk (Kd.K_of_M _ hM)
              refine hK.out _ _ ((below_step hHeld hb5)) (fun hHeld => ?_)
              clear hK K
              refine norm_ (a' := ?_) ?_ ?_
              rotate_left
              · show Act.put _ (some 51) _ = _
                simp only [Act.put, List.setIfInBounds_toArray, List.set_cons_zero, List.set_cons_succ, i64_w, i32_w]
                rfl
              refine one_ (i := 6) (N := some 52) #[true, true, true, true, true, true, true, false, true, false] rfl rfl (by kernel_rfl) (by decide) (fun K hK => ?_)
              refine value_ (w1 := ?_) (v := ?_) (by rfl) rfl ?_ ?_
              rotate_left 2
              · go_simp
                constructor
                · rfl
                · rfl
              obtain ⟨W6, hW6⟩ : ∃ W', Aside0 (W' = W5.alloc (Obj.cells #[.int .i64 kq2, .float .f64 xq2, .string sq2, .slice Aq2 nq2 cq2, .int .i64 kq5, .float .f64 xq5, .string sq5, .slice Aq5 nq5 cq5] 30)) := ⟨_, ⟨rfl⟩⟩
              rw [← hW6.out]
              have hb6 : Below W5.heap.size W5 W6 := by rw [hW6.out]; exact (Below.refl _ _).alloc (Nat.le_refl _) _
              replace H1 := Aside0.mk (Kd.C_below H1.out hb6)
              replace H8 := Aside0.mk (blk_below H8.out hb6)
              replace HZ := Aside0.mk (Nat.lt_of_lt_of_le HZ.out hb6.size)
              replace H4 := Aside0.mk (Kd.C_below H4.out hb6)
              replace H2 := Aside0.mk (tI.K_below hb6 H2.out)
              replace H5 := Aside0.mk (tI.K_below hb6 H5.out)
              have H6 := Aside0.mk (C_two tI (show W6.heap[W5.heap.size]? = some (.cells (([.int .i64 kq2, .float .f64 xq2, .string sq2, .slice Aq2 nq2 cq2] : List Value) ++ ([.int .i64 kq5, .float .f64 xq5, .string sq5, .slice Aq5 nq5 cq5] : List Value)).toArray 30 (0, 0)) by rw [hW6.out]; exact heap_alloc_new _ _) H2.out H5.out)
              refine hK.out _ _ ((below_step hHeld hb6)) (fun hHeld => ?_)
              clear hK K
              refine norm_ (a' := ?_) ?_ ?_
              rotate_left
              · show Act.put _ (some 52) _ = _
                simp only [Act.put, List.setIfInBounds_toArray, List.set_cons_zero, List.set_cons_succ, i64_w, i32_w]
                rfl
              refine one_ (i := 7) (N := some 53) #[true, true, true, true, true, true, true, true, true, false] rfl rfl (by kernel_rfl) (by decide) (fun K hK => ?_)
              have HLs := Aside0.mk hHeld.size
              refine goes_ Try.func6 (by kernel_rfl) rfl #[.slice (some ⟨W5.heap.size, 0, none⟩) 2 2] (by rfl) rfl rfl (by simp only [List.map_toArray, List.map_cons, List.map_nil]; rfl) ?_
              with_reducible refine (implMul (turnM (gridM lb k c) k c) (turnM (gridM la r k) r k) c k r FT.out _ _ _ H6.out).mono ?_
              rintro e W7 ⟨cs, rfl, hM, hb7⟩
              refine ⟨_, rfl, ?_⟩
              obtain ⟨kq7, xq7, sq7, Aq7, nq7, cq7, rfl⟩ := shapeI _ _ _ _ (Kd.K_of_M _ hM)
              replace H1 := Aside0.mk (Kd.C_below H1.out hb7)
              replace H8 := Aside0.mk (blk_below H8.out hb7)
              have hZ0 := HZ.out
              replace HZ := Aside0.mk (Nat.lt_of_lt_of_le HZ.out hb7.size)
              replace H4 := Aside0.mk (Kd.C_below H4.out hb7)
              replace H2 := Aside0.mk (tI.K_below hb7 H2.out)
              replace H5 := Aside0.mk (tI.K_below hb7 H5.out)
              replace H6 := Aside0.mk (Kd.C_below H6.out hb7)
              have H7 := Aside0.mk (tI.M_mono (ok' := fun q => W6.heap.size ≤ q ∧ q < W7.heap.size) (fun q hq => ⟨hq.2.1, hq.2.2.1⟩) (tI.M_bound hM))
              have HQ := Aside0.mk (show ∀ q, W6.heap.size ≤ q ∧ q < W7.heap.size → q ≠ W1.heap.size from fun q hq => by have := hZ0; omega)
              refine hK.out _ _ ((below_step hHeld hb7)) (fun hHeld => ?_)
              clear hK K
              refine norm_ (a' := ?_) ?_ ?_
              rotate_left
              · show Act.put _ (some 53) _ = _
                simp only [Act.put, List.setIfInBounds_toArray, List.set_cons_zero, List.set_cons_succ, i64_w, i32_w]
                rfl
              exact norm_ (by simp only [putAll, Act.put, List.setIfInBounds_toArray, List.set_cons_zero, List.set_cons_succ]) (hCont (W1.heap.size, .slice (some ⟨W0.heap.size, 0, none⟩) 1 1, .agg #[.int .i64 kq2, .float .f64 xq2, .string sq2, .slice Aq2 nq2 cq2], .slice (some ⟨W2.heap.size, 0, none⟩) 1 1, .agg #[.int .i64 kq5, .float .f64 xq5, .string sq5, .slice Aq5 nq5 cq5], .slice (some ⟨W5.heap.size, 0, none⟩) 2 2, .agg #[.int .i64 kq7, .float .f64 xq7, .string sq7, .slice Aq7 nq7 cq7]) _ ⟨hHeld, HG.out, H8.out, _, rfl, tI.M_mono HQ.out (Kd.M_lower tI HLs.out H7.out)⟩)
        · skip
          refine value_ (w1 := ?_) (v := ?_) (by rfl) rfl ?_ ?_
          rotate_left 2
          · go_simp
            constructor
            · rfl
            · rfl
          obtain ⟨W1, hW1⟩ : ∃ W', Aside0 (W' = W0.alloc (Obj.cells #[.int .i64 5, .int .i64 0, .int .i64 0, .string ⟨#[]⟩, .slice B1 n1 d1] 25)) := ⟨_, ⟨rfl⟩⟩
          rw [← hW1.out]
          have hb1 : Below W0.heap.size W0 W1 := by rw [hW1.out]; exact (Below.refl _ _).alloc (Nat.le_refl _) _
          have H4 := Aside0.mk (C_one tS (show W1.heap[W0.heap.size]? = some (.cells (([.int .i64 5, .int .i64 0, .int .i64 0, .string ⟨#[]⟩, .slice B1 n1 d1] : List Value)).toArray 25 (0, 0)) by rw [hW1.out]; exact heap_alloc_new _ _) (tS.K_below (below_step hHeld hb1) HK1.out))
          refine hK.out _ _ ((below_step hHeld hb1)) (fun hHeld => ?_)
          clear hK K
          refine norm_ (a' := ?_) ?_ ?_
          rotate_left
          · show Act.put _ (some 50) _ = _
            simp only [Act.put, List.setIfInBounds_toArray, List.set_cons_zero, List.set_cons_succ, i64_w, i32_w]
            rfl
          refine two_ (i := 1) (j := 8) (Ni := some 47) (Nj := some 14) #[true, true, false, true, true, false, false, false, false, false] #[true, false, false, true, true, false, false, false, true, false] rfl rfl rfl rfl (by kernel_rfl) (by decide) (by decide) (fun K hK => ?_) (fun K hK => ?_)
          · skip
            refine value_ (w1 := ?_) (v := ?_) (by rfl) rfl ?_ ?_
            rotate_left 2
            · go_simp
              constructor
              · rfl
              · rfl
            obtain ⟨W2, hW2⟩ : ∃ W', Aside0 (W' = W1.alloc (Obj.cells #[.int .i64 5, .int .i64 0, .int .i64 0, .string ⟨#[]⟩, .slice B2 n2 d2] 25)) := ⟨_, ⟨rfl⟩⟩
            rw [← hW2.out]
            have hb2 : Below W1.heap.size W1 W2 := by rw [hW2.out]; exact (Below.refl _ _).alloc (Nat.le_refl _) _
            replace H4 := Aside0.mk (Kd.C_below H4.out hb2)
            have H1 := Aside0.mk (C_one tS (show W2.heap[W1.heap.size]? = some (.cells (([.int .i64 5, .int .i64 0, .int .i64 0, .string ⟨#[]⟩, .slice B2 n2 d2] : List Value)).toArray 25 (0, 0)) by rw [hW2.out]; exact heap_alloc_new _ _) (tS.K_below (below_step hHeld hb2) HK2.out))
            refine hK.out _ _ ((below_step hHeld hb2)) (fun hHeld => ?_)
            clear hK K
            refine norm_ (a' := ?_) ?_ ?_
            rotate_left
            · show Act.put _ (some 47) _ = _
              simp only [Act.put, List.setIfInBounds_toArray, List.set_cons_zero, List.set_cons_succ, i64_w, i32_w]
              rfl
            refine two_ (i := 2) (j := 8) (Ni := some 48) (Nj := some 14) #[true, true, true, true, true, false, false, false, false, false] #[true, true, false, true, true, false, false, false, true, false] rfl rfl rfl rfl (by kernel_rfl) (by decide) (by decide) (fun K hK => ?_) (fun K hK => ?_)
            · skip
              refine goes_ Try.func7 (by kernel_rfl) rfl #[.func (.func 11) #[] #[], .slice (some ⟨W1.heap.size, 0, none⟩) 1 1] (by rfl) rfl rfl (by simp only [List.map_toArray, List.map_cons, List.map_nil]; rfl) ?_
              with_reducible refine (askTurn (gridM lb k c) k c FY.out _ _ _ H1.out).mono ?_
              rintro e W3 ⟨cs, rfl, hM, hb3⟩
              refine ⟨_, rfl, ?_⟩
              obtain ⟨kq2, xq2, sq2, Aq2, nq2, cq2, rfl⟩ := shapeI _ _ _ _ (Kd.K_of_M _ hM)
              replace H4 := Aside0.mk (Kd.C_below H4.out hb3)
              replace H1 := Aside0.mk (Kd.C_below H1.out hb3)
              have H2 := Aside0.mk (Kd.K_of_M _ hM)
              refine hK.out _ _ ((below_step hHeld hb3)) (fun hHeld => ?_)
              clear hK K
              refine norm_ (a' := ?_) ?_ ?_
              rotate_left
              · show Act.put _ (some 48) _ = _
                simp only [Act.put, List.setIfInBounds_toArray, List.set_cons_zero, List.set_cons_succ, i64_w, i32_w]
                rfl
              refine two_ (i := 5) (j := 8) (Ni := some 51) (Nj := some 14) #[true, true, true, true, true, true, false, false, false, false] #[true, true, true, true, true, false, false, false, true, false] rfl rfl rfl rfl (by kernel_rfl) (by decide) (by decide) (fun K hK => ?_) (fun K hK => ?_)
              · skip
                refine goes_ Try.func7 (by kernel_rfl) rfl #[.func (.func 11) #[] #[], .slice (some ⟨W0.heap.size, 0, none⟩) 1 1] (by rfl) rfl rfl (by simp only [List.map_toArray, List.map_cons, List.map_nil]; rfl) ?_
                with_reducible refine (askTurn (gridM la r k) r k FX.out _ _ _ H4.out).mono ?_
                rintro e W4 ⟨cs, rfl, hM, hb4⟩
                refine ⟨_, rfl, ?_⟩
                obtain ⟨kq5, xq5, sq5, Aq5, nq5, cq5, rfl⟩ := shapeI _ _ _ _ (Kd.K_of_M _ hM)
                replace H4 := Aside0.mk (Kd.C_below H4.out hb4)
                replace H1 := Aside0.mk (Kd.C_below H1.out hb4)
                replace H2 := Aside0.mk (tI.K_below hb4 H2.out)
                have H5 := Aside0.mk (Kd.K_of_M _ hM)
                refine hK.out _ _ ((below_step hHeld hb4)) (fun hHeld => ?_)
                clear hK K
                refine norm_ (a' := ?_) ?_ ?_
                rotate_left
                · show Act.put _ (some 51) _ = _
                  simp only [Act.put, List.setIfInBounds_toArray, List.set_cons_zero, List.set_cons_succ, i64_w, i32_w]
                  rfl
                refine two_ (i := 6) (j := 8) (Ni := some 52) (Nj := some 14) #[true, true, true, true, true, true, true, false, false, false] #[true, true, true, true, true, true, false, false, true, false] rfl rfl rfl rfl (by kernel_rfl) (by decide) (by decide) (fun K hK => ?_) (fun K hK => ?_)
                · skip
                  refine value_ (w1 := ?_) (v := ?_) (by rfl) rfl ?_ ?_
                  rotate_left 2
                  · go_simp
                    constructor
                    · rfl
                    · rfl
                  obtain ⟨W5, hW5⟩ : ∃ W', Aside0 (W' = W4.alloc (Obj.cells #[.int .i64 kq2, .float .f64 xq2, .string sq2, .slice Aq2 nq2 cq2, .int .i64 kq5, .float .f64 xq5, .string sq5, .slice Aq5 nq5 cq5] 30)) := ⟨_, ⟨rfl⟩⟩
                  rw [← hW5.out]
                  have hb5 : Below W4.heap.size W4 W5 := by rw [hW5.out]; exact (Below.refl _ _).alloc (Nat.le_refl _) _
                  replace H4 := Aside0.mk (Kd.C_below H4.out hb5)
                  replace H1 := Aside0.mk (Kd.C_below H1.out hb5)
                  replace H2 := Aside0.mk (tI.K_below hb5 H2.out)
                  replace H5 := Aside0.mk (tI.K_below hb5 H5.out)
                  have H6 := Aside0.mk (C_two tI (show W5.heap[W4.heap.size]? = some (.cells (([.int .i64 kq2, .float .f64 xq2, .string sq2, .slice Aq2 nq2 cq2] : List Value) ++ ([.int .i64 kq5, .float .f64 xq5, .string sq5, .slice Aq5 nq5 cq5] : List Value)).toArray 30 (0, 0)) by rw [hW5.out]; exact heap_alloc_new _ _) H2.out H5.out)
                  refine hK.out _ _ ((below_step hHeld hb5)) (fun hHeld => ?_)
                  clear hK K
                  refine norm_ (a' := ?_) ?_ ?_
                  rotate_left
                  · show Act.put _ (some 52) _ = _
                    simp only [Act.put, List.setIfInBounds_toArray, List.set_cons_zero, List.set_cons_succ, i64_w, i32_w]
                    rfl
                  refine two_ (i := 7) (j := 8) (Ni := some 53) (Nj := some 14) #[true, true, true, true, true, true, true, true, false, false] #[true, true, true, true, true, true, true, false, true, false] rfl rfl rfl rfl (by kernel_rfl) (by decide) (by decide) (fun K hK => ?_) (fun K hK => ?_)
                  · skip
                    have HLs := Aside0.mk hHeld.size
                    refine goes_ Try.func6 (by kernel_rfl) rfl #[.slice (some ⟨W4.heap.size, 0, none⟩) 2 2] (by rfl) rfl rfl (by simp only [List.map_toArray, List.map_cons, List.map_nil]; rfl) ?_
                    with_reducible refine (implMul (turnM (gridM lb k c) k c) (turnM (gridM la r k) r k) c k r FT.out _ _ _ H6.out).mono ?_
                    rintro e W6 ⟨cs, rfl, hM, hb6⟩
                    refine ⟨_, rfl, ?_⟩
                    obtain ⟨kq7, xq7, sq7, Aq7, nq7, cq7, rfl⟩ := shapeI _ _ _ _ (Kd.K_of_M _ hM)
                    replace H4 := Aside0.mk (Kd.C_below H4.out hb6)
                    replace H1 := Aside0.mk (Kd.C_below H1.out hb6)
                    replace H2 := Aside0.mk (tI.K_below hb6 H2.out)
                    replace H5 := Aside0.mk (tI.K_below hb6 H5.out)
                    replace H6 := Aside0.mk (Kd.C_below H6.out hb6)
                    have H7 := Aside0.mk (tI.M_mono (ok' := fun q => W5.heap.size ≤ q ∧ q < W6.heap.size) (fun q hq => ⟨hq.2.1, hq.2.2.1⟩) (tI.M_bound hM))
                    refine hK.out _ _ ((below_step hHeld hb6)) (fun hHeld => ?_)
                    clear hK K
                    refine norm_ (a' := ?_) ?_ ?_
                    rotate_left
                    · show Act.put _ (some 53) _ = _
                      simp only [Act.put, List.setIfInBounds_toArray, List.set_cons_zero, List.set_cons_succ, i64_w, i32_w]
                      rfl
                    refine one_ (i := 8) (N := some 14) #[true, true, true, true, true, true, true, true, true, false] rfl rfl (by kernel_rfl) (by decide) (fun K hK => ?_)
                    refine value_ (w1 := ?_) (v := ?_) (by rfl) rfl ?_ ?_
                    rotate_left 2
                    · go_simp
                      constructor
                      · rfl
                      · rfl
                    obtain ⟨W7, hW7⟩ : ∃ W', Aside0 (W' = W6.alloc (Obj.cells #[.int .i64 0, .float .f64 0, .string ⟨#[]⟩, .slice none 0 0] 30)) := ⟨_, ⟨rfl⟩⟩
                    rw [← hW7.out]
                    have hb7 : Below W6.heap.size W6 W7 := by rw [hW7.out]; exact (Below.refl _ _).alloc (Nat.le_refl _) _
                    replace H4 := Aside0.mk (Kd.C_below H4.out hb7)
                    replace H1 := Aside0.mk (Kd.C_below H1.out hb7)
                    replace H2 := Aside0.mk (tI.K_below hb7 H2.out)
                    replace H5 := Aside0.mk (tI.K_below hb7 H5.out)
                    replace H6 := Aside0.mk (Kd.C_below H6.out hb7)
                    replace H7 := Aside0.mk (Kd.M_below H7.out hb7)
                    have H8 := Aside0.mk (show W7.heap[W6.heap.size]? = some (.cells #[.int .i64 0, .float .f64 0, .string ⟨#[]⟩, .slice none 0 0] 30 (0, 0)) by rw [hW7.out]; exact heap_alloc_new _ _)
                    have HZ := Aside0.mk (show W6.heap.size < W7.heap.size by rw [hW7.out]; simp)
                    have HG := Aside0.mk hHeld.size
                    have HQ := Aside0.mk (show ∀ q, W5.heap.size ≤ q ∧ q < W6.heap.size → q ≠ W6.heap.size from fun q hq => by omega)
                    refine hK.out _ _ ((below_step hHeld hb7)) (fun hHeld => ?_)
                    clear hK K
                    refine norm_ (a' := ?_) ?_ ?_
                    rotate_left
                    · show Act.put _ (some 14) _ = _
                      simp only [Act.put, List.setIfInBounds_toArray, List.set_cons_zero, List.set_cons_succ, i64_w, i32_w]
                      rfl
                    exact norm_ (by simp only [putAll, Act.put, List.setIfInBounds_toArray, List.set_cons_zero, List.set_cons_succ]) (hCont (W6.heap.size, .slice (some ⟨W1.heap.size, 0, none⟩) 1 1, .agg #[.int .i64 kq2, .float .f64 xq2, .string sq2, .slice Aq2 nq2 cq2], .slice (some ⟨W0.heap.size, 0, none⟩) 1 1, .agg #[.int .i64 kq5, .float .f64 xq5, .string sq5, .slice Aq5 nq5 cq5], .slice (some ⟨W4.heap.size, 0, none⟩) 2 2, .agg #[.int .i64 kq7, .float .f64 xq7, .string sq7, .slice Aq7 nq7 cq7]) _ ⟨hHeld, HG.out, H8.out, _, rfl, tI.M_mono HQ.out (Kd.M_lower tI HLs.out H7.out)⟩)
                  · skip
                    refine value_ (w1 := ?_) (v := ?_) (by rfl) rfl ?_ ?_
                    rotate_left 2
                    · go_simp
                      constructor
                      · rfl
                      · rfl
                    obtain ⟨W6, hW6⟩ : ∃ W', Aside0 (W' = W5.alloc (Obj.cells #[.int .i64 0, .float .f64 0, .string ⟨#[]⟩, .slice none 0 0] 30)) := ⟨_, ⟨rfl⟩⟩
                    rw [← hW6.out]
                    have hb6 : Below W5.heap.size W5 W6 := by rw [hW6.out]; exact (Below.refl _ _).alloc (Nat.le_refl _) _
                    replace H4 := Aside0.mk (Kd.C_below H4.out hb6)
                    replace H1 := Aside0.mk (Kd.C_below H1.out hb6)
                    replace H2 := Aside0.mk (tI.K_below hb6 H2.out)
                    replace H5 := Aside0.mk (tI.K_below hb6 H5.out)
                    replace H6 := Aside0.mk (Kd.C_below H6.out hb6)
                    have H8 := Aside0.mk (show W6.heap[W5.heap.size]? = some (.cells #[.int .i64 0, .float .f64 0, .string ⟨#[]⟩, .slice none 0 0] 30 (0, 0)) by rw [hW6.out]; exact heap_alloc_new _ _)
                    have HZ := Aside0.mk (show W5.heap.size < W6.heap.size by rw [hW6.out]; simp)
                    have HG := Aside0.mk hHeld.size
                    refine hK.out _ _ ((below_step hHeld hb6)) (fun hHeld => ?_)
                    clear hK K
                    refine norm_ (a' := ?_) ?_ ?_
                    rotate_left
                    · show Act.put _ (some 14) _ = _
                      simp only [Act.put, List.setIfInBounds_toArray, List.set_cons_zero, List.set_cons_succ, i64_w, i32_w]
                      rfl
                    refine one_ (i := 7) (N := some 53) #[true, true, true, true, true, true, true, true, true, false] rfl rfl (by kernel_rfl) (by decide) (fun K hK => ?_)
                    have HLs := Aside0.mk hHeld.size
                    refine goes_ Try.func6 (by kernel_rfl) rfl #[.slice (some ⟨W4.heap.size, 0, none⟩) 2 2] (by rfl) rfl rfl (by simp only [List.map_toArray, List.map_cons, List.map_nil]; rfl) ?_
                    with_reducible refine (implMul (turnM (gridM lb k c) k c) (turnM (gridM la r k) r k) c k r FT.out _ _ _ H6.out).mono ?_
                    rintro e W7 ⟨cs, rfl, hM, hb7⟩
                    refine ⟨_, rfl, ?_⟩
                    obtain ⟨kq7, xq7, sq7, Aq7, nq7, cq7, rfl⟩ := shapeI _ _ _ _ (Kd.K_of_M _ hM)
                    replace H4 := Aside0.mk (Kd.C_below H4.out hb7)
                    replace H1 := Aside0.mk (Kd.C_below H1.out hb7)
                    replace H2 := Aside0.mk (tI.K_below hb7 H2.out)
                    replace H5 := Aside0.mk (tI.K_below hb7 H5.out)
                    replace H6 := Aside0.mk (Kd.C_below H6.out hb7)
                    replace H8 := Aside0.mk (blk_below H8.out hb7)
                    have hZ0 := HZ.out
                    replace HZ := Aside0.mk (Nat.lt_of_lt_of_le HZ.out hb7.size)
                    have H7 := Aside0.mk (tI.M_mono (ok' := fun q => W6.heap.size ≤ q ∧ q < W7.heap.size) (fun q hq => ⟨hq.2.1, hq.2.2.1⟩) (tI.M_bound hM))
                    have HQ := Aside0.mk (show ∀ q, W6.heap.size ≤ q ∧ q < W7.heap.size → q ≠ W5.heap.size from fun q hq => by have := hZ0; omega)
                    refine hK.out _ _ ((below_step hHeld hb7)) (fun hHeld => ?_)
                    clear hK K
                    refine norm_ (a' := ?_) ?_ ?_
                    rotate_left
                    · show Act.put _ (some 53) _ = _
                      simp only [Act.put, List.setIfInBounds_toArray, List.set_cons_zero, List.set_cons_succ, i64_w, i32_w]
                      rfl
                    exact norm_ (by simp only [putAll, Act.put, List.setIfInBounds_toArray, List.set_cons_zero, List.set_cons_succ]) (hCont (W5.heap.size, .slice (some ⟨W1.heap.size, 0, none⟩) 1 1, .agg #[.int .i64 kq2, .float .f64 xq2, .string sq2, .slice Aq2 nq2 cq2], .slice (some ⟨W0.heap.size, 0, none⟩) 1 1, .agg #[.int .i64 kq5, .float .f64 xq5, .string sq5, .slice Aq5 nq5 cq5], .slice (some ⟨W4.heap.size, 0, none⟩) 2 2, .agg #[.int .i64 kq7, .float .f64 xq7, .string sq7, .slice Aq7 nq7 cq7]) _ ⟨hHeld, HG.out, H8.out, _, rfl, tI.M_mono HQ.out (Kd.M_lower tI HLs.out H7.out)⟩)
                · skip
                  refine value_ (w1 := ?_) (v := ?_) (by rfl) rfl ?_ ?_
                  rotate_left 2
                  · go_simp
                    constructor
                    · rfl
                    · rfl
                  obtain ⟨W5, hW5⟩ : ∃ W', Aside0 (W' = W4.alloc (Obj.cells #[.int .i64 0, .float .f64 0, .string ⟨#[]⟩, .slice none 0 0] 30)) := ⟨_, ⟨rfl⟩⟩
                  rw [← hW5.out]
                  have hb5 : Below W4.heap.size W4 W5 := by rw [hW5.out]; exact (Below.refl _ _).alloc (Nat.le_refl _) _
                  replace H4 := Aside0.mk (Kd.C_below H4.out hb5)
                  replace H1 := Aside0.mk (Kd.C_below H1.out hb5)
                  replace H2 := Aside0.mk (tI.K_below hb5 H2.out)
                  replace H5 := Aside0.mk (tI.K_below hb5 H5.out)
                  have H8 := Aside0.mk (show W5.heap[W4.heap.size]? = some (.cells #[.int .i64 0, .float .f64 0, .string ⟨#[]⟩, .slice none 0 0] 30 (0, 0)) by rw [hW5.out]; exact heap_alloc_new _ _)
                  have HZ := Aside0.mk (show W4.heap.size < W5.heap.size by rw [hW5.out]; simp)
                  have HG := Aside0.mk hHeld.size
                  refine hK.out _ _ ((below_step hHeld hb5)) (fun hHeld => ?_)
                  clear hK K
                  refine norm_ (a' := ?_) ?_ ?_
                  rotate_left
                  · show Act.put _ (some 14) _ = _
                    simp only [Act.put, List.setIfInBounds_toArray, List.set_cons_zero, List.set_cons_succ, i64_w, i32_w]
                    rfl
                  refine one_ (i := 6) (N := some 52) #[true, true, true, true, true, true, true, false, true, false] rfl rfl (by kernel_rfl) (by decide) (fun K hK => ?_)
                  refine value_ (w1 := ?_) (v := ?_) (by rfl) rfl ?_ ?_
                  rotate_left 2
                  · go_simp
                    constructor
                    · rfl
                    · rfl
                  obtain ⟨W6, hW6⟩ : ∃ W', Aside0 (W' = W5.alloc (Obj.cells #[.int .i64 kq2, .float .f64 xq2, .string sq2, .slice Aq2 nq2 cq2, .int .i64 kq5, .float .f64 xq5, .string sq5, .slice Aq5 nq5 cq5] 30)) := ⟨_, ⟨rfl⟩⟩
                  rw [← hW6.out]
                  have hb6 : Below W5.heap.size W5 W6 := by rw [hW6.out]; exact (Below.refl _ _).alloc (Nat.le_refl _) _
                  replace H4 := Aside0.mk (Kd.C_below H4.out hb6)
                  replace H1 := Aside0.mk (Kd.C_below H1.out hb6)
                  replace H2 := Aside0.mk (tI.K_below hb6 H2.out)
                  replace H5 := Aside0.mk (tI.K_below hb6 H5.out)
                  replace H8 := Aside0.mk (blk_below H8.out hb6)
                  replace HZ := Aside0.mk (Nat.lt_of_lt_of_le HZ.out hb6.size)
                  have H6 := Aside0.mk (C_two tI (show W6.heap[W5.heap.size]? = some (.cells (([.int .i64 kq2, .float .f64 xq2, .string sq2, .slice Aq2 nq2 cq2] : List Value) ++ ([.int .i64 kq5, .float .f64 xq5, .string sq5, .slice Aq5 nq5 cq5] : List Value)).toArray 30 (0, 0)) by rw [hW6.out]; exact heap_alloc_new _ _) H2.out H5.out)
                  refine hK.out _ _ ((below_step hHeld hb6)) (fun hHeld => ?_)
                  clear hK K
                  refine norm_ (a' := ?_) ?_ ?_
                  rotate_left
                  · show Act.put _ (some 52) _ = _
                    simp only [Act.put, List.setIfInBounds_toArray, List.set_cons_zero, List.set_cons_succ, i64_w, i32_w]
                    rfl
                  refine one_ (i := 7) (N := some 53) #[true, true, true, true, true, true, true, true, true, false] rfl rfl (by kernel_rfl) (by decide) (fun K hK => ?_)
                  have HLs := Aside0.mk hHeld.size
                  refine goes_ Try.func6 (by kernel_rfl) rfl #[.slice (some ⟨W5.heap.size, 0, none⟩) 2 2] (by rfl) rfl rfl (by simp only [List.map_toArray, List.map_cons, List.map_nil]; rfl) ?_
                  with_reducible refine (implMul (turnM (gridM lb k c) k c) (turnM (gridM la r k) r k) c k r FT.out _ _ _ H6.out).mono ?_
                  rintro e W7 ⟨cs, rfl, hM, hb7⟩
                  refine ⟨_, rfl, ?_⟩
                  obtain ⟨kq7, xq7, sq7, Aq7, nq7, cq7, rfl⟩ := shapeI _ _ _ _ (Kd.K_of_M _ hM)
                  replace H4 := Aside0.mk (Kd.C_below H4.out hb7)
                  replace H1 := Aside0.mk (Kd.C_below H1.out hb7)
                  replace H2 := Aside0.mk (tI.K_below hb7 H2.out)
                  replace H5 := Aside0.mk (tI.K_below hb7 H5.out)
                  replace H8 := Aside0.mk (blk_below H8.out hb7)
                  have hZ0 := HZ.out
                  replace HZ := Aside0.mk (Nat.lt_of_lt_of_le HZ.out hb7.size)
                  replace H6 := Aside0.mk (Kd.C_below H6.out hb7)
                  have H7 := Aside0.mk (tI.M_mono (ok' := fun q => W6.heap.size ≤ q ∧ q < W7.heap.size) (fun q hq => ⟨hq.2.1, hq.2.2.1⟩) (tI.M_bound hM))
                  have HQ := Aside0.mk (show ∀ q, W6.heap.size ≤ q ∧ q < W7.heap.size → q ≠ W4.heap.size from fun q hq => by have := hZ0; omega)
                  refine hK.out _ _ ((below_step hHeld hb7)) (fun hHeld => ?_)
                  clear hK K
                  refine norm_ (a' := ?_) ?_ ?_
                  rotate_left
                  · show Act.put _ (some 53) _ = _
                    simp only [Act.put, List.setIfInBounds_toArray, List.set_cons_zero, List.set_cons_succ, i64_w, i32_w]
                    rfl
                  exact norm_ (by simp only [putAll, Act.put, List.setIfInBounds_toArray, List.set_cons_zero, List.set_cons_succ]) (hCont (W4.heap.size, .slice (some ⟨W1.heap.size, 0, none⟩) 1 1, .agg #[.int .i64 kq2, .float .f64 xq2, .string sq2, .slice Aq2 nq2 cq2], .slice (some ⟨W0.heap.size, 0, none⟩) 1 1, .agg #[.int .i64 kq5, .float .f64 xq5, .string sq5, .slice Aq5 nq5 cq5], .slice (some ⟨W5.heap.size, 0, none⟩) 2 2, .agg #[.int .i64 kq7, .float .f64 xq7, .string sq7, .slice Aq7 nq7 cq7]) _ ⟨hHeld, HG.out, H8.out, _, rfl, tI.M_mono HQ.out (Kd.M_lower tI HLs.out H7.out)⟩)
              · skip
                refine value_ (w1 := ?_) (v := ?_) (by rfl) rfl ?_ ?_
                rotate_left 2
                · go_simp
                  constructor
                  · rfl
                  · rfl
                obtain ⟨W4, hW4⟩ : ∃ W', Aside0 (W' = W3.alloc (Obj.cells #[.int .i64 0, .float .f64 0, .string ⟨#[]⟩, .slice none 0 0] 30)) := ⟨_, ⟨rfl⟩⟩
                rw [← hW4.out]
                have hb4 : Below W3.heap.size W3 W4 := by rw [hW4.out]; exact (Below.refl _ _).alloc (Nat.le_refl _) _
                replace H4 := Aside0.mk (Kd.C_below H4.out hb4)
                replace H1 := Aside0.mk (Kd.C_below H1.out hb4)
                replace H2 := Aside0.mk (tI.K_below hb4 H2.out)
                have H8 := Aside0.mk (show W4.heap[W3.heap.size]? = some (.cells #[.int .i64 0, .float .f64 0, .string ⟨#[]⟩, .slice none 0 0] 30 (0, 0)) by rw [hW4.out]; exact heap_alloc_new _ _)
                have HZ := Aside0.mk (show W3.heap.size < W4.heap.size by rw [hW4.out]; simp)
                have HG := Aside0.mk hHeld.size
                refine hK.out _ _ ((below_step hHeld hb4)) (fun hHeld => ?_)
                clear hK K
                refine norm_ (a' := ?_) ?_ ?_
                rotate_left
                · show Act.put _ (some 14) _ = _
                  simp only [Act.put, List.setIfInBounds_toArray, List.set_cons_zero, List.set_cons_succ, i64_w, i32_w]
                  rfl
                refine one_ (i := 5) (N := some 51) #[true, true, true, true, true, true, false, false, true, false] rfl rfl (by kernel_rfl) (by decide) (fun K hK => ?_)
                refine goes_ Try.func7 (by kernel_rfl) rfl #[.func (.func 11) #[] #[], .slice (some ⟨W0.heap.size, 0, none⟩) 1 1] (by rfl) rfl rfl (by simp only [List.map_toArray, List.map_cons, List.map_nil]; rfl) ?_
                with_reducible refine (askTurn (gridM la r k) r k FX.out _ _ _ H4.out).mono ?_
                rintro e W5 ⟨cs, rfl, hM, hb5⟩
                refine ⟨_, rfl, ?_⟩
                obtain ⟨kq5, xq5, sq5, Aq5, nq5, cq5, rfl⟩ := shapeI _ _ _ _ (Kd.K_of_M _ hM)
                replace H4 := Aside0.mk (Kd.C_below H4.out hb5)
                replace H1 := Aside0.mk (Kd.C_below H1.out hb5)
                replace H2 := Aside0.mk (tI.K_below hb5 H2.out)
                replace H8 := Aside0.mk (blk_below H8.out hb5)
                replace HZ := Aside0.mk (Nat.lt_of_lt_of_le HZ.out hb5.size)
                have H5 := Aside0.mk (Kd.K_of_M _ hM)
                refine hK.out _ _ ((below_step hHeld hb5)) (fun hHeld => ?_)
                clear hK K
                refine norm_ (a' := ?_) ?_ ?_
                rotate_left
                · show Act.put _ (some 51) _ = _
                  simp only [Act.put, List.setIfInBounds_toArray, List.set_cons_zero, List.set_cons_succ, i64_w, i32_w]
                  rfl
                refine one_ (i := 6) (N := some 52) #[true, true, true, true, true, true, true, false, true, false] rfl rfl (by kernel_rfl) (by decide) (fun K hK => ?_)
                refine value_ (w1 := ?_) (v := ?_) (by rfl) rfl ?_ ?_
                rotate_left 2
                · go_simp
                  constructor
                  · rfl
                  · rfl
                obtain ⟨W6, hW6⟩ : ∃ W', Aside0 (W' = W5.alloc (Obj.cells #[.int .i64 kq2, .float .f64 xq2, .string sq2, .slice Aq2 nq2 cq2, .int .i64 kq5, .float .f64 xq5, .string sq5, .slice Aq5 nq5 cq5] 30)) := ⟨_, ⟨rfl⟩⟩
                rw [← hW6.out]
                have hb6 : Below W5.heap.size W5 W6 := by rw [hW6.out]; exact (Below.refl _ _).alloc (Nat.le_refl _) _
                replace H4 := Aside0.mk (Kd.C_below H4.out hb6)
                replace H1 := Aside0.mk (Kd.C_below H1.out hb6)
                replace H2 := Aside0.mk (tI.K_below hb6 H2.out)
                replace H8 := Aside0.mk (blk_below H8.out hb6)
                replace HZ := Aside0.mk (Nat.lt_of_lt_of_le HZ.out hb6.size)
                replace H5 := Aside0.mk (tI.K_below hb6 H5.out)
                have H6 := Aside0.mk (C_two tI (show W6.heap[W5.heap.size]? = some (.cells (([.int .i64 kq2, .float .f64 xq2, .string sq2, .slice Aq2 nq2 cq2] : List Value) ++ ([.int .i64 kq5, .float .f64 xq5, .string sq5, .slice Aq5 nq5 cq5] : List Value)).toArray 30 (0, 0)) by rw [hW6.out]; exact heap_alloc_new _ _) H2.out H5.out)
                refine hK.out _ _ ((below_step hHeld hb6)) (fun hHeld => ?_)
                clear hK K
                refine norm_ (a' := ?_) ?_ ?_
                rotate_left
                · show Act.put _ (some 52) _ = _
                  simp only [Act.put, List.setIfInBounds_toArray, List.set_cons_zero, List.set_cons_succ, i64_w, i32_w]
                  rfl
                refine one_ (i := 7) (N := some 53) #[true, true, true, true, true, true, true, true, true, false] rfl rfl (by kernel_rfl) (by decide) (fun K hK => ?_)
                have HLs := Aside0.mk hHeld.size
                refine goes_ Try.func6 (by kernel_rfl) rfl #[.slice (some ⟨W5.heap.size, 0, none⟩) 2 2] (by rfl) rfl rfl (by simp only [List.map_toArray, List.map_cons, List.map_nil]; rfl) ?_
                with_reducible refine (implMul (turnM (gridM lb k c) k c) (turnM (gridM la r k) r k) c k r FT.out _ _ _ H6.out).mono ?_
                rintro e W7 ⟨cs, rfl, hM, hb7⟩
                refine ⟨_, rfl, ?_⟩
                obtain ⟨kq7, xq7, sq7, Aq7, nq7, cq7, rfl⟩ := shapeI _ _ _ _ (Kd.K_of_M _ hM)
                replace H4 := Aside0.mk (Kd.C_below H4.out hb7)
                replace H1 := Aside0.mk (Kd.C_below H1.out hb7)
                replace H2 := Aside0.mk (tI.K_below hb7 H2.out)
                replace H8 := Aside0.mk (blk_below H8.out hb7)
                have hZ0 := HZ.out
                replace HZ := Aside0.mk (Nat.lt_of_lt_of_le HZ.out hb7.size)
                replace H5 := Aside0.mk (tI.K_below hb7 H5.out)
                replace H6 := Aside0.mk (Kd.C_below H6.out hb7)
                have H7 := Aside0.mk (tI.M_mono (ok' := fun q => W6.heap.size ≤ q ∧ q < W7.heap.size) (fun q hq => ⟨hq.2.1, hq.2.2.1⟩) (tI.M_bound hM))
                have HQ := Aside0.mk (show ∀ q, W6.heap.size ≤ q ∧ q < W7.heap.size → q ≠ W3.heap.size from fun q hq => by have := hZ0; omega)
                refine hK.out _ _ ((below_step hHeld hb7)) (fun hHeld => ?_)
                clear hK K
                refine norm_ (a' := ?_) ?_ ?_
                rotate_left
                · show Act.put _ (some 53) _ = _
                  simp only [Act.put, List.setIfInBounds_toArray, List.set_cons_zero, List.set_cons_succ, i64_w, i32_w]
                  rfl
                exact norm_ (by simp only [putAll, Act.put, List.setIfInBounds_toArray, List.set_cons_zero, List.set_cons_succ]) (hCont (W3.heap.size, .slice (some ⟨W1.heap.size, 0, none⟩) 1 1, .agg #[.int .i64 kq2, .float .f64 xq2, .string sq2, .slice Aq2 nq2 cq2], .slice (some ⟨W0.heap.size, 0, none⟩) 1 1, .agg #[.int .i64 kq5, .float .f64 xq5, .string sq5, .slice Aq5 nq5 cq5], .slice (some ⟨W5.heap.size, 0, none⟩) 2 2, .agg #[.int .i64 kq7, .float .f64 xq7, .string sq7, .slice Aq7 nq7 cq7]) _ ⟨hHeld, HG.out, H8.out, _, rfl, tI.M_mono HQ.out (Kd.M_lower tI HLs.out H7.out)⟩)
            · skip
              refine value_ (w1 := ?_) (v := ?_) (by rfl) rfl ?_ ?_
              rotate_left 2
              · go_simp
                constructor
                · rfl
                · rfl
              obtain ⟨W3, hW3⟩ : ∃ W', Aside0 (W' = W2.alloc (Obj.cells #[.int .i64 0, .float .f64 0, .string ⟨#[]⟩, .slice none 0 0] 30)) := ⟨_, ⟨rfl⟩⟩
              rw [← hW3.out]
              have hb3 : Below W2.heap.size W2 W3 := by rw [hW3.out]; exact (Below.refl _ _).alloc (Nat.le_refl _) _
              replace H4 := Aside0.mk (Kd.C_below H4.out hb3)
              replace H1 := Aside0.mk (Kd.C_below H1.out hb3)
              have H8 := Aside0.mk (show W3.heap[W2.heap.size]? = some (.cells #[.int .i64 0, .float .f64 0, .string ⟨#[]⟩, .slice none 0 0] 30 (0, 0)) by rw [hW3.out]; exact heap_alloc_new _ _)
              have HZ := Aside0.mk (show W2.heap.size < W3.heap.size by rw [hW3.out]; simp)
              have HG := Aside0.mk hHeld.size
              refine hK.out _ _ ((below_step hHeld hb3)) (fun hHeld => ?_)
              clear hK K
              refine norm_ (a' := ?_) ?_ ?_
              rotate_left
              · show Act.put _ (some 14) _ = _
                simp only [Act.put, List.setIfInBounds_toArray, List.set_cons_zero, List.set_cons_succ, i64_w, i32_w]
                rfl
              refine one_ (i := 2) (N := some 48) #[true, true, true, true, true, false, false, false, true, false] rfl rfl (by kernel_rfl) (by decide) (fun K hK => ?_)
              refine goes_ Try.func7 (by kernel_rfl) rfl #[.func (.func 11) #[] #[], .slice (some ⟨W1.heap.size, 0, none⟩) 1 1] (by rfl) rfl rfl (by simp only [List.map_toArray, List.map_cons, List.map_nil]; rfl) ?_
              with_reducible refine (askTurn (gridM lb k c) k c FY.out _ _ _ H1.out).mono ?_
              rintro e W4 ⟨cs, rfl, hM, hb4⟩
              refine ⟨_, rfl, ?_⟩
              obtain ⟨kq2, xq2, sq2, Aq2, nq2, cq2, rfl⟩ := shapeI _ _ _ _ (Kd.K_of_M _ hM)
              replace H4 := Aside0.mk (Kd.C_below H4.out hb4)
              replace H1 := Aside0.mk (Kd.C_below H1.out hb4)
              replace H8 := Aside0.mk (blk_below H8.out hb4)
              replace HZ := Aside0.mk (Nat.lt_of_lt_of_le HZ.out hb4.size)
              have H2 := Aside0.mk (Kd.K_of_M _ hM)
              refine hK.out _ _ ((below_step hHeld hb4)) (fun hHeld => ?_)
              clear hK K
              refine norm_ (a' := ?_) ?_ ?_
              rotate_left
              · show Act.put _ (some 48) _ = _
                simp only [Act.put, List.setIfInBounds_toArray, List.set_cons_zero, List.set_cons_succ, i64_w, i32_w]
                rfl
              refine one_ (i := 5) (N := some 51) #[true, true, true, true, true, true, false, false, true, false] rfl rfl (by kernel_rfl) (by decide) (fun K hK => ?_)
              refine goes_ Try.func7 (by kernel_rfl) rfl #[.func (.func 11) #[] #[], .slice (some ⟨W0.heap.size, 0, none⟩) 1 1] (by rfl) rfl rfl (by simp only [List.map_toArray, List.map_cons, List.map_nil]; rfl) ?_
              with_reducible refine (askTurn (gridM la r k) r k FX.out _ _ _ H4.out).mono ?_
              rintro e W5 ⟨cs, rfl, hM, hb5⟩
              refine ⟨_, rfl, ?_⟩
              obtain ⟨kq5, xq5, sq5, Aq5, nq5, cq5, rfl⟩ := shapeI _ _ _ _ (Kd.K_of_M _ hM)
              replace H4 := Aside0.mk (Kd.C_below H4.out hb5)
              replace H1 := Aside0.mk (Kd.C_below H1.out hb5)
              replace H8 := Aside0.mk (blk_below H8.out hb5)
              replace HZ := Aside0.mk (Nat.lt_of_lt_of_le HZ.out hb5.size)
              replace H2 := Aside0.mk (tI.K_below hb5 H2.out)
              have H5 := Aside0.mk (Kd.K_of_M _ hM)
              refine hK.out _ _ ((below_step hHeld hb5)) (fun hHeld => ?_)
              clear hK K
              refine norm_ (a' := ?_) ?_ ?_
              rotate_left
              · show Act.put _ (some 51) _ = _
                simp only [Act.put, List.setIfInBounds_toArray, List.set_cons_zero, List.set_cons_succ, i64_w, i32_w]
                rfl
              refine one_ (i := 6) (N := some 52) #[true, true, true, true, true, true, true, false, true, false] rfl rfl (by kernel_rfl) (by decide) (fun K hK => ?_)
              refine value_ (w1 := ?_) (v := ?_) (by rfl) rfl ?_ ?_
              rotate_left 2
              · go_simp
                constructor
                · rfl
                · rfl
              obtain ⟨W6, hW6⟩ : ∃ W', Aside0 (W' = W5.alloc (Obj.cells #[.int .i64 kq2, .float .f64 xq2, .string sq2, .slice Aq2 nq2 cq2, .int .i64 kq5, .float .f64 xq5, .string sq5, .slice Aq5 nq5 cq5] 30)) := ⟨_, ⟨rfl⟩⟩
              rw [← hW6.out]
              have hb6 : Below W5.heap.size W5 W6 := by rw [hW6.out]; exact (Below.refl _ _).alloc (Nat.le_refl _) _
              replace H4 := Aside0.mk (Kd.C_below H4.out hb6)
              replace H1 := Aside0.mk (Kd.C_below H1.out hb6)
              replace H8 := Aside0.mk (blk_below H8.out hb6)
              replace HZ := Aside0.mk (Nat.lt_of_lt_of_le HZ.out hb6.size)
              replace H2 := Aside0.mk (tI.K_below hb6 H2.out)
              replace H5 := Aside0.mk (tI.K_below hb6 H5.out)
              have H6 := Aside0.mk (C_two tI (show W6.heap[W5.heap.size]? = some (.cells (([.int .i64 kq2, .float .f64 xq2, .string sq2, .slice Aq2 nq2 cq2] : List Value) ++ ([.int .i64 kq5, .float .f64 xq5, .string sq5, .slice Aq5 nq5 cq5] : List Value)).toArray 30 (0, 0)) by rw [hW6.out]; exact heap_alloc_new _ _) H2.out H5.out)
              refine hK.out _ _ ((below_step hHeld hb6)) (fun hHeld => ?_)
              clear hK K
              refine norm_ (a' := ?_) ?_ ?_
              rotate_left
              · show Act.put _ (some 52) _ = _
                simp only [Act.put, List.setIfInBounds_toArray, List.set_cons_zero, List.set_cons_succ, i64_w, i32_w]
                rfl
              refine one_ (i := 7) (N := some 53) #[true, true, true, true, true, true, true, true, true, false] rfl rfl (by kernel_rfl) (by decide) (fun K hK => ?_)
              have HLs := Aside0.mk hHeld.size
              refine goes_ Try.func6 (by kernel_rfl) rfl #[.slice (some ⟨W5.heap.size, 0, none⟩) 2 2] (by rfl) rfl rfl (by simp only [List.map_toArray, List.map_cons, List.map_nil]; rfl) ?_
              with_reducible refine (implMul (turnM (gridM lb k c) k c) (turnM (gridM la r k) r k) c k r FT.out _ _ _ H6.out).mono ?_
              rintro e W7 ⟨cs, rfl, hM, hb7⟩
              refine ⟨_, rfl, ?_⟩
              obtain ⟨kq7, xq7, sq7, Aq7, nq7, cq7, rfl⟩ := shapeI _ _ _ _ (Kd.K_of_M _ hM)
              replace H4 := Aside0.mk (Kd.C_below H4.out hb7)
              replace H1 := Aside0.mk (Kd.C_below H1.out hb7)
              replace H8 := Aside0.mk (blk_below H8.out hb7)
              have hZ0 := HZ.out
              replace HZ := Aside0.mk (Nat.lt_of_lt_of_le HZ.out hb7.size)
              replace H2 := Aside0.mk (tI.K_below hb7 H2.out)
              replace H5 := Aside0.mk (tI.K_below hb7 H5.out)
              replace H6 := Aside0.mk (Kd.C_below H6.out hb7)
              have H7 := Aside0.mk (tI.M_mono (ok' := fun q => W6.heap.size ≤ q ∧ q < W7.heap.size) (fun q hq => ⟨hq.2.1, hq.2.2.1⟩) (tI.M_bound hM))
              have HQ := Aside0.mk (show ∀ q, W6.heap.size ≤ q ∧ q < W7.heap.size → q ≠ W2.heap.size from fun q hq => by have := hZ0; omega)
              refine hK.out _ _ ((below_step hHeld hb7)) (fun hHeld => ?_)
              clear hK K
              refine norm_ (a' := ?_) ?_ ?_
              rotate_left
              · show Act.put _ (some 53) _ = _
                simp only [Act.put, List.setIfInBounds_toArray, List.set_cons_zero, List.set_cons_succ, i64_w, i32_w]
                rfl
              exact norm_ (by simp only [putAll, Act.put, List.setIfInBounds_toArray, List.set_cons_zero, List.set_cons_succ]) (hCont (W2.heap.size, .slice (some ⟨W1.heap.size, 0, none⟩) 1 1, .agg #[.int .i64 kq2, .float .f64 xq2, .string sq2, .slice Aq2 nq2 cq2], .slice (some ⟨W0.heap.size, 0, none⟩) 1 1, .agg #[.int .i64 kq5, .float .f64 xq5, .string sq5, .slice Aq5 nq5 cq5], .slice (some ⟨W5.heap.size, 0, none⟩) 2 2, .agg #[.int .i64 kq7, .float .f64 xq7, .string sq7, .slice Aq7 nq7 cq7]) _ ⟨hHeld, HG.out, H8.out, _, rfl, tI.M_mono HQ.out (Kd.M_lower tI HLs.out H7.out)⟩)
          · skip
            refine value_ (w1 := ?_) (v := ?_) (by rfl) rfl ?_ ?_
            rotate_left 2
            · go_simp
              constructor
              · rfl
              · rfl
            obtain ⟨W2, hW2⟩ : ∃ W', Aside0 (W' = W1.alloc (Obj.cells #[.int .i64 0, .float .f64 0, .string ⟨#[]⟩, .slice none 0 0] 30)) := ⟨_, ⟨rfl⟩⟩
            rw [← hW2.out]
            have hb2 : Below W1.heap.size W1 W2 := by rw [hW2.out]; exact (Below.refl _ _).alloc (Nat.le_refl _) _
            replace H4 := Aside0.mk (Kd.C_below H4.out hb2)
            have H8 := Aside0.mk (show W2.heap[W1.heap.size]? = some (.cells #[.int .i64 0, .float .f64 0, .string ⟨#[]⟩, .slice none 0 0] 30 (0, 0)) by rw [hW2.out]; exact heap_alloc_new _ _)
            have HZ := Aside0.mk (show W1.heap.size < W2.heap.size by rw [hW2.out]; simp)
            have HG := Aside0.mk hHeld.size
            refine hK.out _ _ ((below_step hHeld hb2)) (fun hHeld => ?_)
            clear hK K
            refine norm_ (a' := ?_) ?_ ?_
            rotate_left
            · show Act.put _ (some 14) _ = _
              simp only [Act.put, List.setIfInBounds_toArray, List.set_cons_zero, List.set_cons_succ, i64_w, i32_w]
              rfl
            refine one_ (i := 1) (N := some 47) #[true, true, false, true, true, false, false, false, true, false] rfl rfl (by kernel_rfl) (by decide) (fun K hK => ?_)
            refine value_ (w1 := ?_) (v := ?_) (by rfl) rfl ?_ ?_
            rotate_left 2
            · go_simp
              constructor
              · rfl
              · rfl
            obtain ⟨W3, hW3⟩ : ∃ W', Aside0 (W' = W2.alloc (Obj.cells #[.int .i64 5, .int .i64 0, .int .i64 0, .string ⟨#[]⟩, .slice B2 n2 d2] 25)) := ⟨_, ⟨rfl⟩⟩
            rw [← hW3.out]
            have hb3 : Below W2.heap.size W2 W3 := by rw [hW3.out]; exact (Below.refl _ _).alloc (Nat.le_refl _) _
            replace H4 := Aside0.mk (Kd.C_below H4.out hb3)
            replace H8 := Aside0.mk (blk_below H8.out hb3)
            replace HZ := Aside0.mk (Nat.lt_of_lt_of_le HZ.out hb3.size)
            have H1 := Aside0.mk (C_one tS (show W3.heap[W2.heap.size]? = some (.cells (([.int .i64 5, .int .i64 0, .int .i64 0, .string ⟨#[]⟩, .slice B2 n2 d2] : List Value)).toArray 25 (0, 0)) by rw [hW3.out]; exact heap_alloc_new _ _) (tS.K_below (below_step hHeld hb3) HK2.out))
            refine hK.out _ _ ((below_step hHeld hb3)) (fun hHeld => ?_)
            clear hK K
            refine norm_ (a' := ?_) ?_ ?_
            rotate_left
            · show Act.put _ (some 47) _ = _
              simp only [Act.put, List.setIfInBounds_toArray, List.set_cons_zero, List.set_cons_succ, i64_w, i32_w]
              rfl
            refine one_ (i := 2) (N := some 48) #[true, true, true, true, true, false, false, false, true, false] rfl rfl (by kernel_rfl) (by decide) (fun K hK => ?_)
            refine goes_ Try.func7 (by kernel_rfl) rfl #[.func (.func 11) #[] #[], .slice (some ⟨W2.heap.size, 0, none⟩) 1 1] (by rfl) rfl rfl (by simp only [List.map_toArray, List.map_cons, List.map_nil]; rfl) ?_
            with_reducible refine (askTurn (gridM lb k c) k c FY.out _ _ _ H1.out).mono ?_
            rintro e W4 ⟨cs, rfl, hM, hb4⟩
            refine ⟨_, rfl, ?_⟩
            obtain ⟨kq2, xq2, sq2, Aq2, nq2, cq2, rfl⟩ := shapeI _ _ _ _ (Kd.K_of_M _ hM)
            replace H4 := Aside0.mk (Kd.C_below H4.out hb4)
            replace H8 := Aside0.mk (blk_below H8.out hb4)
            replace HZ := Aside0.mk (Nat.lt_of_lt_of_le HZ.out hb4.size)
            replace H1 := Aside0.mk (Kd.C_below H1.out hb4)
            have H2 := Aside0.mk (Kd.K_of_M _ hM)
            refine hK.out _ _ ((below_step hHeld hb4)) (fun hHeld => ?_)
            clear hK K
            refine norm_ (a' := ?_) ?_ ?_
            rotate_left
            · show Act.put _ (some 48) _ = _
              simp only [Act.put, List.setIfInBounds_toArray, List.set_cons_zero, List.set_cons_succ, i64_w, i32_w]
              rfl
            refine one_ (i := 5) (N := some 51) #[true, true, true, true, true, true, false, false, true, false] rfl rfl (by kernel_rfl) (by decide) (fun K hK => ?_)
            refine goes_ Try.func7 (by kernel_rfl) rfl #[.func (.func 11) #[] #[], .slice (some ⟨W0.heap.size, 0, none⟩) 1 1] (by rfl) rfl rfl (by simp only [List.map_toArray, List.map_cons, List.map_nil]; rfl) ?_
            with_reducible refine (askTurn (gridM la r k) r k FX.out _ _ _ H4.out).mono ?_
            rintro e W5 ⟨cs, rfl, hM, hb5⟩
            refine ⟨_, rfl, ?_⟩
            obtain ⟨kq5, xq5, sq5, Aq5, nq5, cq5, rfl⟩ := shapeI _ _ _ _ (Kd.K_of_M _ hM)
            replace H4 := Aside0.mk (Kd.C_below H4.out hb5)
            replace H8 := Aside0.mk (blk_below H8.out hb5)
            replace HZ := Aside0.mk (Nat.lt_of_lt_of_le HZ.out hb5.size)
            replace H1 := Aside0.mk (Kd.C_below H1.out hb5)
            replace H2 := Aside0.mk (tI.K_below hb5 H2.out)
            have H5 := Aside0.mk (Kd.K_of_M _ hM)
            refine hK.out _ _ ((below_step hHeld hb5)) (fun hHeld => ?_)
            clear hK K
            refine norm_ (a' := ?_) ?_ ?_
            rotate_left
            · show Act.put _ (some 51) _ = _
              simp only [Act.put, List.setIfInBounds_toArray, List.set_cons_zero, List.set_cons_succ, i64_w, i32_w]
              rfl
            refine one_ (i := 6) (N := some 52) #[true, true, true, true, true, true, true, false, true, false] rfl rfl (by kernel_rfl) (by decide) (fun K hK => ?_)
            refine value_ (w1 := ?_) (v := ?_) (by rfl) rfl ?_ ?_
            rotate_left 2
            · go_simp
              constructor
              · rfl
              · rfl
            obtain ⟨W6, hW6⟩ : ∃ W', Aside0 (W' = W5.alloc (Obj.cells #[.int .i64 kq2, .float .f64 xq2, .string sq2, .slice Aq2 nq2 cq2, .int .i64 kq5, .float .f64 xq5, .string sq5, .slice Aq5 nq5 cq5] 30)) := ⟨_, ⟨rfl⟩⟩
            rw [← hW6.out]
            have hb6 : Below W5.heap.size W5 W6 := by rw [hW6.out]; exact (Below.refl _ _).alloc (Nat.le_refl _) _
            replace H4 := Aside0.mk (Kd.C_below H4.out hb6)
            replace H8 := Aside0.mk (blk_below H8.out hb6)
            replace HZ := Aside0.mk (Nat.lt_of_lt_of_le HZ.out hb6.size)
            replace H1 := Aside0.mk (Kd.C_below H1.out hb6)
            replace H2 := Aside0.mk (tI.K_below hb6 H2.out)
            replace H5 := Aside0.mk (tI.K_below hb6 H5.out)
            have H6 := Aside0.mk (C_two tI (show W6.heap[W5.heap.size]? = some (.cells (([.int .i64 kq2, .float .f64 xq2, .string sq2, .slice Aq2 nq2 cq2] : List Value) ++ ([.int .i64 kq5, .float .f64 xq5, .string sq5, .slice Aq5 nq5 cq5] : List Value)).toArray 30 (0, 0)) by rw [hW6.out]; exact heap_alloc_new _ _) H2.out H5.out)
            refine hK.out _ _ ((below_step hHeld hb6)) (fun hHeld => ?_)
            clear hK K
            refine norm_ (a' := ?_) ?_ ?_
            rotate_left
            · show Act.put _ (some 52) _ = _
              simp only [Act.put, List.setIfInBounds_toArray, List.set_cons_zero, List.set_cons_succ, i64_w, i32_w]
              rfl
            refine one_ (i := 7) (N := some 53) #[true, true, true, true, true, true, true, true, true, false] rfl rfl (by kernel_rfl) (by decide) (fun K hK => ?_)
            have HLs := Aside0.mk hHeld.size
            refine goes_ Try.func6 (by kernel_rfl) rfl #[.slice (some ⟨W5.heap.size, 0, none⟩) 2 2] (by rfl) rfl rfl (by simp only [List.map_toArray, List.map_cons, List.map_nil]; rfl) ?_
            with_reducible refine (implMul (turnM (gridM lb k c) k c) (turnM (gridM la r k) r k) c k r FT.out _ _ _ H6.out).mono ?_
            rintro e W7 ⟨cs, rfl, hM, hb7⟩
            refine ⟨_, rfl, ?_⟩
            obtain ⟨kq7, xq7, sq7, Aq7, nq7, cq7, rfl⟩ := shapeI _ _ _ _ (Kd.K_of_M _ hM)
            replace H4 := Aside0.mk (Kd.C_below H4.out hb7)
            replace H8 := Aside0.mk (blk_below H8.out hb7)
            have hZ0 := HZ.out
            replace HZ := Aside0.mk (Nat.lt_of_lt_of_le HZ.out hb7.size)
            replace H1 := Aside0.mk (Kd.C_below H1.out hb7)
            replace H2 := Aside0.mk (tI.K_below hb7 H2.out)
            replace H5 := Aside0.mk (tI.K_below hb7 H5.out)
            replace H6 := Aside0.mk (Kd.C_below H6.out hb7)
            have H7 := Aside0.mk (tI.M_mono (ok' := fun q => W6.heap.size ≤ q ∧ q < W7.heap.size) (fun q hq => ⟨hq.2.1, hq.2.2.1⟩) (tI.M_bound hM))
            have HQ := Aside0.mk (show ∀ q, W6.heap.size ≤ q ∧ q < W7.heap.size → q ≠ W1.heap.size from fun q hq => by have := hZ0; omega)
            refine hK.out _ _ ((below_step hHeld hb7)) (fun hHeld => ?_)
            clear hK K
            refine norm_ (a' := ?_) ?_ ?_
            rotate_left
            · show Act.put _ (some 53) _ = _
              simp only [Act.put, List.setIfInBounds_toArray, List.set_cons_zero, List.set_cons_succ, i64_w, i32_w]
              rfl
            exact norm_ (by simp only [putAll, Act.put, List.setIfInBounds_toArray, List.set_cons_zero, List.set_cons_succ]) (hCont (W1.heap.size, .slice (some ⟨W2.heap.size, 0, none⟩) 1 1, .agg #[.int .i64 kq2, .float .f64 xq2, .string sq2, .slice Aq2 nq2 cq2], .slice (some ⟨W0.heap.size, 0, none⟩) 1 1, .agg #[.int .i64 kq5, .float .f64 xq5, .string sq5, .slice Aq5 nq5 cq5], .slice (some ⟨W5.heap.size, 0, none⟩) 2 2, .agg #[.int .i64 kq7, .float .f64 xq7, .string sq7, .slice Aq7 nq7 cq7]) _ ⟨hHeld, HG.out, H8.out, _, rfl, tI.M_mono HQ.out (Kd.M_lower tI HLs.out H7.out)⟩)
        · skip
          refine value_ (w1 := ?_) (v := ?_) (by rfl) rfl ?_ ?_
          rotate_left 2
          · go_simp
            constructor
            · rfl
            · rfl
          obtain ⟨W1, hW1⟩ : ∃ W', Aside0 (W' = W0.alloc (Obj.cells #[.int .i64 0, .float .f64 0, .string ⟨#[]⟩, .slice none 0 0] 30)) := ⟨_, ⟨rfl⟩⟩
          rw [← hW1.out]
          have hb1 : Below W0.heap.size W0 W1 := by rw [hW1.out]; exact (Below.refl _ _).alloc (Nat.le_refl _) _
          have H8 := Aside0.mk (show W1.heap[W0.heap.size]? = some (.cells #[.int .i64 0, .float .f64 0, .string ⟨#[]⟩, .slice none 0 0] 30 (0, 0)) by rw [hW1.out]; exact heap_alloc_new _ _)
          have HZ := Aside0.mk (show W0.heap.size < W1.heap.size by rw [hW1.out]; simp)
          have HG := Aside0.mk hHeld.size
          refine hK.out _ _ ((below_step hHeld hb1)) (fun hHeld => ?_)
          clear hK K
          refine norm_ (a' := ?_) ?_ ?_
          rotate_left
          · show Act.put _ (some 14) _ = _
            simp only [Act.put, List.setIfInBounds_toArray, List.set_cons_zero, List.set_cons_succ, i64_w, i32_w]
            rfl
          refine two_ (i := 1) (j := 4) (Ni := some 47) (Nj := some 50) #[true, true, false, true, false, false, false, false, true, false] #[true, false, false, true, true, false, false, false, true, false] rfl rfl rfl rfl (by kernel_rfl) (by decide) (by decide) (fun K hK => ?_) (fun K hK => ?_)
          · skip
            refine value_ (w1 := ?_) (v := ?_) (by rfl) rfl ?_ ?_
            rotate_left 2
            · go_simp
              constructor
              · rfl
              · rfl
            obtain ⟨W2, hW2⟩ : ∃ W', Aside0 (W' = W1.alloc (Obj.cells #[.int .i64 5, .int .i64 0, .int .i64 0, .string ⟨#[]⟩, .slice B2 n2 d2] 25)) := ⟨_, ⟨rfl⟩⟩
            rw [← hW2.out]
            have hb2 : Below W1.heap.size W1 W2 := by rw [hW2.out]; exact (Below.refl _ _).alloc (Nat.le_refl _) _
            replace H8 := Aside0.mk (blk_below H8.out hb2)
            replace HZ := Aside0.mk (Nat.lt_of_lt_of_le HZ.out hb2.size)
            have H1 := Aside0.mk (C_one tS (show W2.heap[W1.heap.size]? = some (.cells (([.int .i64 5, .int .i64 0, .int .i64 0, .string ⟨#[]⟩, .slice B2 n2 d2] : List Value)).toArray 25 (0, 0)) by rw [hW2.out]; exact heap_alloc_new _ _) (tS.K_below (below_step hHeld hb2) HK2.out))
            refine hK.out _ _ ((below_step hHeld hb2)) (fun hHeld => ?_)
            clear hK K
            refine norm_ (a' := ?_) ?_ ?_
            rotate_left
            · show Act.put _ (some 47) _ = _
              simp only [Act.put, List.setIfInBounds_toArray, List.set_cons_zero, List.set_cons_succ, i64_w, i32_w]
              rfl
            refine two_ (i := 2) (j := 4) (Ni := some 48) (Nj := some 50) #[true, true, true, true, false, false, false, false, true, false] #[true, true, false, true, true, false, false, false, true, false] rfl rfl rfl rfl (by kernel_rfl) (by decide) (by decide) (fun K hK => ?_) (fun K hK => ?_)
            · skip
              refine goes_ Try.func7 (by kernel_rfl) rfl #[.func (.func 11) #[] #[], .slice (some ⟨W1.heap.size, 0, none⟩) 1 1] (by rfl) rfl rfl (by simp only [List.map_toArray, List.map_cons, List.map_nil]; rfl) ?_
              with_reducible refine (askTurn (gridM lb k c) k c FY.out _ _ _ H1.out).mono ?_
              rintro e W3 ⟨cs, rfl, hM, hb3⟩
              refine ⟨_, rfl, ?_⟩
              obtain ⟨kq2, xq2, sq2, Aq2, nq2, cq2, rfl⟩ := shapeI _ _ _ _ (Kd.K_of_M _ hM)
              replace H8 := Aside0.mk (blk_below H8.out hb3)
              replace HZ := Aside0.mk (Nat.lt_of_lt_of_le HZ.out hb3.size)
              replace H1 := Aside0.mk (Kd.C_below H1.out hb3)
              have H2 := Aside0.mk (Kd.K_of_M _ hM)
              refine hK.out _ _ ((below_step hHeld hb3)) (fun hHeld => ?_)
              clear hK K
              refine norm_ (a' := ?_) ?_ ?_
              rotate_left
              · show Act.put _ (some 48) _ = _
                simp only [Act.put, List.setIfInBounds_toArray, List.set_cons_zero, List.set_cons_succ, i64_w, i32_w]
                rfl
              refine one_ (i := 4) (N := some 50) #[true, true, true, true, true, false, false, false, true, false] rfl rfl (by kernel_rfl) (by decide) (fun K hK => ?_)
              refine value_ (w1 := ?_) (v := ?_) (by rfl) rfl ?_ ?_
              rotate_left 2
              · go_simp
                constructor
                · rfl
                · rfl
              obtain ⟨W4, hW4⟩ : ∃ W', Aside0 (W' = W3.alloc (Obj.cells #[.int .i64 5, .int .i64 0, .int .i64 0, .string ⟨#[]⟩, .slice B1 n1 d1] 25)) := ⟨_, ⟨rfl⟩⟩
              rw [← hW4.out]
              have hb4 : Below W3.heap.size W3 W4 := by rw [hW4.out]; exact (Below.refl _ _).alloc (Nat.le_refl _) _
              replace H8 := Aside0.mk (blk_below H8.out hb4)
              replace HZ := Aside0.mk (Nat.lt_of_lt_of_le HZ.out hb4.size)
              replace H1 := Aside0.mk (Kd.C_below H1.out hb4)
              replace H2 := Aside0.mk (tI.K_below hb4 H2.out)
              have H4 := Aside0.mk (C_one tS (show W4.heap[W3.heap.size]? = some (.cells (([.int .i64 5, .int .i64 0, .int .i64 0, .string ⟨#[]⟩, .slice B1 n1 d1] : List Value)).toArray 25 (0, 0)) by rw [hW4.out]; exact heap_alloc_new _ _) (tS.K_below (below_step hHeld hb4) HK1.out))
              refine hK.out _ _ ((below_step hHeld hb4)) (fun hHeld => ?_)
              clear hK K
              refine norm_ (a' := ?_) ?_ ?_
              rotate_left
              · show Act.put _ (some 50) _ = _
                simp only [Act.put, List.setIfInBounds_toArray, List.set_cons_zero, List.set_cons_succ, i64_w, i32_w]
                rfl
              refine one_ (i := 5) (N := some 51) #[true, true, true, true, true, true, false, false, true, false] rfl rfl (by kernel_rfl) (by decide) (fun K hK => ?_)
              refine goes_ Try.func7 (by kernel_rfl) rfl #[.func (.func 11) #[] #[], .slice (some ⟨W3.heap.size, 0, none⟩) 1 1] (by rfl) rfl rfl (by simp only [List.map_toArray, List.map_cons, List.map_nil]; rfl) ?_
              with_reducible refine (askTurn (gridM la r k) r k FX.out _ _ _ H4.out).mono ?_
              rintro e W5 ⟨cs, rfl, hM, hb5⟩
              refine ⟨_, rfl, ?_⟩
              obtain ⟨kq5, xq5, sq5, Aq5, nq5, cq5, rfl⟩ := shapeI _ _ _ _ (Kd.K_of_M _ hM)
              replace H8 := Aside0.mk (blk_below H8.out hb5)
              replace HZ := Aside0.mk (Nat.lt_of_lt_of_le HZ.out hb5.size)
              replace H1 := Aside0.mk (Kd.C_below H1.out hb5)
              replace H2 := Aside0.mk (tI.K_below hb5 H2.out)
              replace H4 := Aside0.mk (Kd.C_below H4.out hb5)
              have H5 := Aside0.mk (Kd.K_of_M _ hM)
              refine hK.out _ _ ((below_step hHeld hb5)) (fun hHeld => ?_)
              clear hK K
              refine norm_ (a' := ?_) ?_ ?_
              rotate_left
              · show Act.put _ (some 51) _ = _
                simp only [Act.put, List.setIfInBounds_toArray, List.set_cons_zero, List.set_cons_succ, i64_w, i32_w]
                rfl
              refine one_ (i := 6) (N := some 52) #[true, true, true, true, true, true, true, false, true, false] rfl rfl (by kernel_rfl) (by decide) (fun K hK => ?_)
              refine value_ (w1 := ?_) (v := ?_) (by rfl) rfl ?_ ?_
              rotate_left 2
              · go_simp
                constructor
                · rfl
                · rfl
              obtain ⟨W6, hW6⟩ : ∃ W', Aside0 (W' = W5.alloc (Obj.cells #[.int .i64 kq2, .float .f64 xq2, .string sq2, .slice Aq2 nq2 cq2, .int .i64 kq5, .float .f64 xq5, .string sq5, .slice Aq5 nq5 cq5] 30)) := ⟨_, ⟨rfl⟩⟩
              rw [← hW6.out]
              have hb6 : Below W5.heap.size W5 W6 := by rw [hW6.out]; exact (Below.refl _ _).alloc (Nat.le_refl _) _
              replace H8 := Aside0.mk (blk_below H8.out hb6)
              replace HZ := Aside0.mk (Nat.lt_of_lt_of_le HZ.out hb6.size)
              replace H1 := Aside0.mk (Kd.C_below H1.out hb6)
              replace H2 := Aside0.mk (tI.K_below hb6 H2.out)
              replace H4 := Aside0.mk (Kd.C_below H4.out hb6)
              replace H5 := Aside0.mk (tI.K_below hb6 H5.out)
              have H6 := Aside0.mk (C_two tI (show W6.heap[W5.heap.size]? = some (.cells (([.int .i64 kq2, .float .f64 xq2, .string sq2, .slice Aq2 nq2 cq2] : List Value) ++ ([.int .i64 kq5, .float .f64 xq5, .string sq5, .slice Aq5 nq5 cq5] : List Value)).toArray 30 (0, 0)) by rw [hW6.out]; exact heap_alloc_new _ _) H2.out H5.out)
              refine hK.out _ _ ((below_step hHeld hb6)) (fun hHeld => ?_)
              clear hK K
              refine norm_ (a' := ?_) ?_ ?_
              rotate_left
              · show Act.put _ (some 52) _ = _
                simp only [Act.put, List.setIfInBounds_toArray, List.set_cons_zero, List.set_cons_succ, i64_w, i32_w]
                rfl
              refine one_ (i := 7) (N := some 53) #[true, true, true, true, true, true, true, true, true, false] rfl rfl (by kernel_rfl) (by decide) (fun K hK => ?_)
              have HLs := Aside0.mk hHeld.size
              refine goes_ Try.func6 (by kernel_rfl) rfl #[.slice (some ⟨W5.heap.size, 0, none⟩) 2 2] (by rfl) rfl rfl (by simp only [List.map_toArray, List.map_cons, List.map_nil]; rfl) ?_
              with_reducible refine (implMul (turnM (gridM lb k c) k c) (turnM (gridM la r k) r k) c k r FT.out _ _ _ H6.out).mono ?_
              rintro e W7 ⟨cs, rfl, hM, hb7⟩
              refine ⟨_, rfl, ?_⟩
              obtain ⟨kq7, xq7, sq7, Aq7, nq7, cq7, rfl⟩ := shapeI _ _ _ _ (Kd.K_of_M _ hM)
              replace H8 := Aside0.mk (blk_below H8.out hb7)
              have hZ0 := HZ.out
              replace HZ := Aside0.mk (Nat.lt_of_lt_of_le HZ.out hb7.size)
              replace H1 := Aside0.mk (Kd.C_below H1.out hb7)
              replace H2 := Aside0.mk (tI.K_below hb7 H2.out)
              replace H4 := Aside0.mk (Kd.C_below H4.out hb7)
              replace H5 := Aside0.mk (tI.K_below hb7 H5.out)
              replace H6 := Aside0.mk (Kd.C_below H6.out hb7)
              have H7 := Aside0.mk (tI.M_mono (ok' := fun q => W6.heap.size ≤ q ∧ q < W7.heap.size) (fun q hq => ⟨hq.2.1, hq.2.2.1⟩) (tI.M_bound hM))
              have HQ := Aside0.mk (show ∀ q, W6.heap.size ≤ q ∧ q < W7.heap.size → q ≠ W0.heap.size from fun q hq => by have := hZ0; omega)
              refine hK.out _ _ ((below_step hHeld hb7)) (fun hHeld => ?_)
              clear hK K
              refine norm_ (a' := ?_) ?_ ?_
              rotate_left
              · show Act.put _ (some 53) _ = _
                simp only [Act.put, List.setIfInBounds_toArray, List.set_cons_zero, List.set_cons_succ, i64_w, i32_w]
                rfl
              exact norm_ (by simp only [putAll, Act.put, List.setIfInBounds_toArray, List.set_cons_zero, List.set_cons_succ]) (hCont (W0.heap.size, .slice (some ⟨W1.heap.size, 0, none⟩) 1 1, .agg #[.int .i64 kq2, .float .f64 xq2, .string sq2, .slice Aq2 nq2 cq2], .slice (some ⟨W3.heap.size, 0, none⟩) 1 1, .agg #[.int .i64 kq5, .float .f64 xq5, .string sq5, .slice Aq5 nq5 cq5], .slice (some ⟨W5.heap.size, 0, none⟩) 2 2, .agg #[.int .i64 kq7, .float .f64 xq7, .string sq7, .slice Aq7 nq7 cq7]) _ ⟨hHeld, HG.out, H8.out, _, rfl, tI.M_mono HQ.out (Kd.M_lower tI HLs.out H7.out)⟩)
            · skip
              refine value_ (w1 := ?_) (v := ?_) (by rfl) rfl ?_ ?_
              rotate_left 2
              · go_simp
                constructor
                · rfl
                · rfl
              obtain ⟨W3, hW3⟩ : ∃ W', Aside0 (W' = W2.alloc (Obj.cells #[.int .i64 5, .int .i64 0, .int .i64 0, .string ⟨#[]⟩, .slice B1 n1 d1] 25)) := ⟨_, ⟨rfl⟩⟩
              rw [← hW3.out]
              have hb3 : Below W2.heap.size W2 W3 := by rw [hW3.out]; exact (Below.refl _ _).alloc (Nat.le_refl _) _
              replace H8 := Aside0.mk (blk_below H8.out hb3)
              replace HZ := Aside0.mk (Nat.lt_of_lt_of_le HZ.out hb3.size)
              replace H1 := Aside0.mk (Kd.C_below H1.out hb3)
              have H4 := Aside0.mk (C_one tS (show W3.heap[W2.heap.size]? = some (.cells (([.int .i64 5, .int .i64 0, .int .i64 0, .string ⟨#[]⟩, .slice B1 n1 d1] : List Value)).toArray 25 (0, 0)) by rw [hW3.out]; exact heap_alloc_new _ _) (tS.K_below (below_step hHeld hb3) HK1.out))
              refine hK.out _ _ ((below_step hHeld hb3)) (fun hHeld => ?_)
              clear hK K
              refine norm_ (a' := ?_) ?_ ?_
              rotate_left
              · show Act.put _ (some 50) _ = _
                simp only [Act.put, List.setIfInBounds_toArray, List.set_cons_zero, List.set_cons_succ, i64_w, i32_w]
                rfl
              refine one_ (i := 2) (N := some 48) #[true, true, true, true, true, false, false, false, true, false] rfl rfl (by kernel_rfl) (by decide) (fun K hK => ?_)
              refine goes_ Try.func7 (by kernel_rfl) rfl #[.func (.func 11) #[] #[], .slice (some ⟨W1.heap.size, 0, none⟩) 1 1] (by rfl) rfl rfl (by simp only [List.map_toArray, List.map_cons, List.map_nil]; rfl) ?_
              with_reducible refine (askTurn (gridM lb k c) k c FY.out _ _ _ H1.out).mono ?_
              rintro e W4 ⟨cs, rfl, hM, hb4⟩
              refine ⟨_, rfl, ?_⟩
              obtain ⟨kq2, xq2, sq2, Aq2, nq2, cq2, rfl⟩ := shapeI _ _ _ _ (Kd.K_of_M _ hM)
              replace H8 := Aside0.mk (blk_below H8.out hb4)
              replace HZ := Aside0.mk (Nat.lt_of_lt_of_le HZ.out hb4.size)
              replace H1 := Aside0.mk (Kd.C_below H1.out hb4)
              replace H4 := Aside0.mk (Kd.C_below H4.out hb4)
              have H2 := Aside0.mk (Kd.K_of_M _ hM)
              refine hK.out _ _ ((below_step hHeld hb4)) (fun hHeld => ?_)
              clear hK K
              refine norm_ (a' := ?_) ?_ ?_
              rotate_left
              · show Act.put _ (some 48) _ = _
                simp only [Act.put, List.setIfInBounds_toArray, List.set_cons_zero, List.set_cons_succ, i64_w, i32_w]
                rfl
              refine one_ (i := 5) (N := some 51) #[true, true, true, true, true, true, false, false, true, false] rfl rfl (by kernel_rfl) (by decide) (fun K hK => ?_)
              refine goes_ Try.func7 (by kernel_rfl) rfl #[.func (.func 11) #[] #[], .slice (some ⟨W2.heap.size, 0, none⟩) 1 1] (by rfl) rfl rfl (by simp only [List.map_toArray, List.map_cons, List.map_nil]; rfl) ?_
              with_reducible refine (askTurn (gridM la r k) r k FX.out _ _ _ H4.out).mono ?_
              rintro e W5 ⟨cs, rfl, hM, hb5⟩
              refine ⟨_, rfl, ?_⟩
              obtain ⟨kq5, xq5, sq5, Aq5, nq5, cq5, rfl⟩ := shapeI _ _ _ _ (Kd.K_of_M _ hM)
              replace H8 := Aside0.mk (blk_below H8.out hb5)
              replace HZ := Aside0.mk (Nat.lt_of_lt_of_le HZ.out hb5.size)
              replace H1 := Aside0.mk (Kd.C_below H1.out hb5)
              replace H4 := Aside0.mk (Kd.C_below H4.out hb5)
              replace H2 := Aside0.mk (tI.K_below hb5 H2.out)
              have H5 := Aside0.mk (Kd.K_of_M _ hM)
              refine hK.out _ _ ((below_step hHeld hb5)) (fun hHeld => ?_)
              clear hK K
              refine norm_ (a' := ?_) ?_ ?_
              rotate_left
              · show Act.put _ (some 51) _ = _
                simp only [Act.put, List.setIfInBounds_toArray, List.set_cons_zero, List.set_cons_succ, i64_w, i32_w]
                rfl
              refine one_ (i := 6) (N := some 52) #[true, true, true, true, true, true, true, false, true, false] rfl rfl (by kernel_rfl) (by decide) (fun K hK => ?_)
              refine value_ (w1 := ?_) (v := ?_) (by rfl) rfl ?_ ?_
              rotate_left 2
              · go_simp
                constructor
                · rfl
                · rfl
              obtain ⟨W6, hW6⟩ : ∃ W', Aside0 (W' = W5.alloc (Obj.cells #[.int .i64 kq2, .float .f64 xq2, .string sq2, .slice Aq2 nq2 cq2, .int .i64 kq5, .float .f64 xq5, .string sq5, .slice Aq5 nq5 cq5] 30)) := ⟨_, ⟨rfl⟩⟩
              rw [← hW6.out]
              have hb6 : Below W5.heap.size W5 W6 := by rw [hW6.out]; exact (Below.refl _ _).alloc (Nat.le_refl _) _
              replace H8 := Aside0.mk (blk_below H8.out hb6)
              replace HZ := Aside0.mk (Nat.lt_of_lt_of_le HZ.out hb6.size)
              replace H1 := Aside0.mk (Kd.C_below H1.out hb6)
              replace H4 := Aside0.mk (Kd.C_below H4.out hb6)
              replace H2 := Aside0.mk (tI.K_below hb6 H2.out)
              replace H5 := Aside0.mk (tI.K_below hb6 H5.out)
              have H6 := Aside0.mk (C_two tI (show W6.heap[W5.heap.size]? = some (.cells (([.int .i64 kq2, .float .f64 xq2, .string sq2, .slice Aq2 nq2 cq2] : List Value) ++ ([.int .i64 kq5, .float .f64 xq5, .string sq5, .slice Aq5 nq5 cq5] : List Value)).toArray 30 (0, 0)) by rw [hW6.out]; exact heap_alloc_new _ _) H2.out H5.out)
              refine hK.out _ _ ((below_step hHeld hb6)) (fun hHeld => ?_)
              clear hK K
              refine norm_ (a' := ?_) ?_ ?_
              rotate_left
              · show Act.put _ (some 52) _ = _
                simp only [Act.put, List.setIfInBounds_toArray, List.set_cons_zero, List.set_cons_succ, i64_w, i32_w]
                rfl
              refine one_ (i := 7) (N := some 53) #[true, true, true, true, true, true, true, true, true, false] rfl rfl (by kernel_rfl) (by decide) (fun K hK => ?_)
              have HLs := Aside0.mk hHeld.size
              refine goes_ Try.func6 (by kernel_rfl) rfl #[.slice (some ⟨W5.heap.size, 0, none⟩) 2 2] (by rfl) rfl rfl (by simp only [List.map_toArray, List.map_cons, List.map_nil]; rfl) ?_
              with_reducible refine (implMul (turnM (gridM lb k c) k c) (turnM (gridM la r k) r k) c k r FT.out _ _ _ H6.out).mono ?_
              rintro e W7 ⟨cs, rfl, hM, hb7⟩
              refine ⟨_, rfl, ?_⟩
              obtain ⟨kq7, xq7, sq7, Aq7, nq7, cq7, rfl⟩ := shapeI _ _ _ _ (Kd.K_of_M _ hM)
              replace H8 := Aside0.mk (blk_below H8.out hb7)
              have hZ0 := HZ.out
              replace HZ := Aside0.mk (Nat.lt_of_lt_of_le HZ.out hb7.size)
              replace H1 := Aside0.mk (Kd.C_below H1.out hb7)
              replace H4 := Aside0.mk (Kd.C_below H4.out hb7)
              replace H2 := Aside0.mk (tI.K_below hb7 H2.out)
              replace H5 := Aside0.mk (tI.K_below hb7 H5.out)
              replace H6 := Aside0.mk (Kd.C_below H6.out hb7)
              have H7 := Aside0.mk (tI.M_mono (ok' := fun q => W6.heap.size ≤ q ∧ q < W7.heap.size) (fun q hq => ⟨hq.2.1, hq.2.2.1⟩) (tI.M_bound hM))
              have HQ := Aside0.mk (show ∀ q, W6.heap.size ≤ q ∧ q < W7.heap.size → q ≠ W0.heap.size from fun q hq => by have := hZ0; omega)
              refine hK.out _ _ ((below_step hHeld hb7)) (fun hHeld => ?_)
              clear hK K
              refine norm_ (a' := ?_) ?_ ?_
              rotate_left
              · show Act.put _ (some 53) _ = _
                simp only [Act.put, List.setIfInBounds_toArray, List.set_cons_zero, List.set_cons_succ, i64_w, i32_w]
                rfl
              exact norm_ (by simp only [putAll, Act.put, List.setIfInBounds_toArray, List.set_cons_zero, List.set_cons_succ]) (hCont (W0.heap.size, .slice (some ⟨W1.heap.size, 0, none⟩) 1 1, .agg #[.int .i64 kq2, .float .f64 xq2, .string sq2, .slice Aq2 nq2 cq2], .slice (some ⟨W2.heap.size, 0, none⟩) 1 1, .agg #[.int .i64 kq5, .float .f64 xq5, .string sq5, .slice Aq5 nq5 cq5], .slice (some ⟨W5.heap.size, 0, none⟩) 2 2, .agg #[.int .i64 kq7, .float .f64 xq7, .string sq7, .slice Aq7 nq7 cq7]) _ ⟨hHeld, HG.out, H8.out, _, rfl, tI.M_mono HQ.out (Kd.M_lower tI HLs.out H7.out)⟩)
          · skip
            refine value_ (w1 := ?_) (v := ?_) (by rfl) rfl ?_ ?_
            rotate_left 2
            · go_simp
              constructor
              · rfl
              · rfl
            obtain ⟨W2, hW2⟩ : ∃ W', Aside0 (W' = W1.alloc (Obj.cells #[.int .i64 5, .int .i64 0, .int .i64 0, .string ⟨#[]⟩, .slice B1 n1 d1] 25)) := ⟨_, ⟨rfl⟩⟩
            rw [← hW2.out]
            have hb2 : Below W1.heap.size W1 W2 := by rw [hW2.out]; exact (Below.refl _ _).alloc (Nat.le_refl _) _
            replace H8 := Aside0.mk (blk_below H8.out hb2)
            replace HZ := Aside0.mk (Nat.lt_of_lt_of_le HZ.out hb2.size)
            have H4 := Aside0.mk (C_one tS (show W2.heap[W1.heap.size]? = some (.cells (([.int .i64 5, .int .i64 0, .int .i64 0, .string ⟨#[]⟩, .slice B1 n1 d1] : List Value)).toArray 25 (0, 0)) by rw [hW2.out]; exact heap_alloc_new _ _) (tS.K_below (below_step hHeld hb2) HK1.out))
            refine hK.out _ _ ((below_step hHeld hb2)) (fun hHeld => ?_)
            clear hK K
            refine norm_ (a' := ?_) ?_ ?_
            rotate_left
            · show Act.put _ (some 50) _ = _
              simp only [Act.put, List.setIfInBounds_toArray, List.set_cons_zero, List.set_cons_succ, i64_w, i32_w]
              rfl
            refine one_ (i := 1) (N := some 47) #[true, true, false, true, true, false, false, false, true, false] rfl rfl (by kernel_rfl) (by decide) (fun K hK => ?_)
            refine value_ (w1 := ?_) (v := ?_) (by rfl) rfl ?_ ?_
            rotate_left 2
            · go_simp
              constructor
              · rfl
              · rfl
            obtain ⟨W3, hW3⟩ : ∃ W', Aside0 (W' = W2.alloc (Obj.cells #[.int .i64 5, .int .i64 0, .int .i64 0, .string ⟨#[]⟩, .slice B2 n2 d2] 25)) := ⟨_, ⟨rfl⟩⟩
            rw [← hW3.out]
            have hb3 : Below W2.heap.size W2 W3 := by rw [hW3.out]; exact (Below.refl _ _).alloc (Nat.le_refl _) _
            replace H8 := Aside0.mk (blk_below H8.out hb3)
            replace HZ := Aside0.mk (Nat.lt_of_lt_of_le HZ.out hb3.size)
            replace H4 := Aside0.mk (Kd.C_below H4.out hb3)
            have H1 := Aside0.mk (C_one tS (show W3.heap[W2.heap.size]? = some (.cells (([.int .i64 5, .int .i64 0, .int .i64 0, .string ⟨#[]⟩, .slice B2 n2 d2] : List Value)).toArray 25 (0, 0)) by rw [hW3.out]; exact heap_alloc_new _ _) (tS.K_below (below_step hHeld hb3) HK2.out))
            refine hK.out _ _ ((below_step hHeld hb3)) (fun hHeld => ?_)
            clear hK K
            refine norm_ (a' := ?_) ?_ ?_
            rotate_left
            · show Act.put _ (some 47) _ = _
              simp only [Act.put, List.setIfInBounds_toArray, List.set_cons_zero, List.set_cons_succ, i64_w, i32_w]
              rfl
            refine one_ (i := 2) (N := some 48) #[true, true, true, true, true, false, false, false, true, false] rfl rfl (by kernel_rfl) (by decide) (fun K hK => ?_)
            refine goes_ Try.func7 (by kernel_rfl) rfl #[.func (.func 11) #[] #[], .slice (some ⟨W2.heap.size, 0, none⟩) 1 1] (by rfl) rfl rfl (by simp only [List.map_toArray, List.map_cons, List.map_nil]; rfl) ?_
            with_reducible refine (askTurn (gridM lb k c) k c FY.out _ _ _ H1.out).mono ?_
            rintro e W4 ⟨cs, rfl, hM, hb4⟩
            refine ⟨_, rfl, ?_⟩
            obtain ⟨kq2, xq2, sq2, Aq2, nq2, cq2, rfl⟩ := shapeI _ _ _ _ (Kd.K_of_M _ hM)
            replace H8 := Aside0.mk (blk_below H8.out hb4)
            replace HZ := Aside0.mk (Nat.lt_of_lt_of_le HZ.out hb4.size)
            replace H4 := Aside0.mk (Kd.C_below H4.out hb4)
            replace H1 := Aside0.mk (Kd.C_below H1.out hb4)
            have H2 := Aside0.mk (Kd.K_of_M _ hM)
            refine hK.out _ _ ((below_step hHeld hb4)) (fun hHeld => ?_)
            clear hK K
            refine norm_ (a' := ?_) ?_ ?_
            rotate_left
            · show Act.put _ (some 48) _ = _
              simp only [Act.put, List.setIfInBounds_toArray, List.set_cons_zero, List.set_cons_succ, i64_w, i32_w]
              rfl
            refine one_ (i := 5) (N := some 51) #[true, true, true, true, true, true, false, false, true, false] rfl rfl (by kernel_rfl) (by decide) (fun K hK => ?_)
            refine goes_ Try.func7 (by kernel_rfl) rfl #[.func (.func 11) #[] #[], .slice (some ⟨W1.heap.size, 0, none⟩) 1 1] (by rfl) rfl rfl (by simp only [List.map_toArray, List.map_cons, List.map_nil]; rfl) ?_
            with_reducible refine (askTurn (gridM la r k) r k FX.out _ _ _ H4.out).mono ?_
            rintro e W5 ⟨cs, rfl, hM, hb5⟩
            refine ⟨_, rfl, ?_⟩
            obtain ⟨kq5, xq5, sq5, Aq5, nq5, cq5, rfl⟩ := shapeI _ _ _ _ (Kd.K_of_M _ hM)
            replace H8 := Aside0.mk (blk_below H8.out hb5)
            replace HZ := Aside0.mk (Nat.lt_of_lt_of_le HZ.out hb5.size)
            replace H4 := Aside0.mk (Kd.C_below H4.out hb5)
            replace H1 := Aside0.mk (Kd.C_below H1.out hb5)
            replace H2 := Aside0.mk (tI.K_below hb5 H2.out)
            have H5 := Aside0.mk (Kd.K_of_M _ hM)
            refine hK.out _ _ ((below_step hHeld hb5)) (fun hHeld => ?_)
            clear hK K
            refine norm_ (a' := ?_) ?_ ?_
            rotate_left
            · show Act.put _ (some 51) _ = _
              simp only [Act.put, List.setIfInBounds_toArray, List.set_cons_zero, List.set_cons_succ, i64_w, i32_w]
              rfl
            refine one_ (i := 6) (N := some 52) #[true, true, true, true, true, true, true, false, true, false] rfl rfl (by kernel_rfl) (by decide) (fun K hK => ?_)
            refine value_ (w1 := ?_) (v := ?_) (by rfl) rfl ?_ ?_
            rotate_left 2
            · go_simp
              constructor
              · rfl
              · rfl
            obtain ⟨W6, hW6⟩ : ∃ W', Aside0 (W' = W5.alloc (Obj.cells #[.int .i64 kq2, .float .f64 xq2, .string sq2, .slice Aq2 nq2 cq2, .int .i64 kq5, .float .f64 xq5, .string sq5, .slice Aq5 nq5 cq5] 30)) := ⟨_, ⟨rfl⟩⟩
            rw [← hW6.out]
            have hb6 : Below W5.heap.size W5 W6 := by rw [hW6.out]; exact (Below.refl _ _).alloc (Nat.le_refl _) _
            replace H8 := Aside0.mk (blk_below H8.out hb6)
            replace HZ := Aside0.mk (Nat.lt_of_lt_of_le HZ.out hb6.size)
            replace H4 := Aside0.mk (Kd.C_below H4.out hb6)
            replace H1 := Aside0.mk (Kd.C_below H1.out hb6)
            replace H2 := Aside0.mk (tI.K_below hb6 H2.out)
            replace H5 := Aside0.mk (tI.K_below hb6 H5.out)
            have H6 := Aside0.mk (C_two tI (show W6.heap[W5.heap.size]? = some (.cells (([.int .i64 kq2, .float .f64 xq2, .string sq2, .slice Aq2 nq2 cq2] : List Value) ++ ([.int .i64 kq5, .float .f64 xq5, .string sq5, .slice Aq5 nq5 cq5] : List Value)).toArray 30 (0, 0)) by rw [hW6.out]; exact heap_alloc_new _ _) H2.out H5.out)
            refine hK.out _ _ ((below_step hHeld hb6)) (fun hHeld => ?_)
            clear hK K
            refine norm_ (a' := ?_) ?_ ?_
            rotate_left
            · show Act.put _ (some 52) _ = _
              simp only [Act.put, List.setIfInBounds_toArray, List.set_cons_zero, List.set_cons_succ, i64_w, i32_w]
              rfl
            refine one_ (i := 7) (N := some 53) #[true, true, true, true, true, true, true, true, true, false] rfl rfl (by kernel_rfl) (by decide) (fun K hK => ?_)
            have HLs := Aside0.mk hHeld.size
            refine goes_ Try.func6 (by kernel_rfl) rfl #[.slice (some ⟨W5.heap.size, 0, none⟩) 2 2] (by rfl) rfl rfl (by simp only [List.map_toArray, List.map_cons, List.map_nil]; rfl) ?_
            with_reducible refine (implMul (turnM (gridM lb k c) k c) (turnM (gridM la r k) r k) c k r FT.out _ _ _ H6.out).mono ?_
            rintro e W7 ⟨cs, rfl, hM, hb7⟩
            refine ⟨_, rfl, ?_⟩
            obtain ⟨kq7, xq7, sq7, Aq7, nq7, cq7, rfl⟩ := shapeI _ _ _ _ (Kd.K_of_M _ hM)
            replace H8 := Aside0.mk (blk_below H8.out hb7)
            have hZ0 := HZ.out
            replace HZ := Aside0.mk (Nat.lt_of_lt_of_le HZ.out hb7.size)
            replace H4 := Aside0.mk (Kd.C_below H4.out hb7)
            replace H1 := Aside0.mk (Kd.C_below H1.out hb7)
            replace H2 := Aside0.mk (tI.K_below hb7 H2.out)
            replace H5 := Aside0.mk (tI.K_below hb7 H5.out)
            replace H6 := Aside0.mk (Kd.C_below H6.out hb7)
            have H7 := Aside0.mk (tI.M_mono (ok' := fun q => W6.heap.size ≤ q ∧ q < W7.heap.size) (fun q hq => ⟨hq.2.1, hq.2.2.1⟩) (tI.M_bound hM))
            have HQ := Aside0.mk (show ∀ q, W6.heap.size ≤ q ∧ q < W7.heap.size → q ≠ W0.heap.size from fun q hq => by have := hZ0; omega)
            refine hK.out _ _ ((below_step hHeld hb7)) (fun hHeld => ?_)
            clear hK K
            refine norm_ (a' := ?_) ?_ ?_
            rotate_left
            · show Act.put _ (some 53) _ = _
              simp only [Act.put, List.setIfInBounds_toArray, List.set_cons_zero, List.set_cons_succ, i64_w, i32_w]
              rfl
            exact norm_ (by simp only [putAll, Act.put, List.setIfInBounds_toArray, List.set_cons_zero, List.set_cons_succ]) (hCont (W0.heap.size, .slice (some ⟨W2.heap.size, 0, none⟩) 1 1, .agg #[.int .i64 kq2, .float .f64 xq2, .string sq2, .slice Aq2 nq2 cq2], .slice (some ⟨W1.heap.size, 0, none⟩) 1 1, .agg #[.int .i64 kq5, .float .f64 xq5, .string sq5, .slice Aq5 nq5 cq5], .slice (some ⟨W5.heap.size, 0, none⟩) 2 2, .agg #[.int .i64 kq7, .float .f64 xq7, .string sq7, .slice Aq7 nq7 cq7]) _ ⟨hHeld, HG.out, H8.out, _, rfl, tI.M_mono HQ.out (Kd.M_lower tI HLs.out H7.out)⟩)
      rintro ⟨g14, v47, v48, v50, v51, v52, v53⟩ w' ⟨hHeld, hG, h8, cs, hv, hM⟩
      obtain ⟨kl, xl, sl, AL, nl, cl, rfl⟩ := shapeI _ _ _ _ (Kd.K_of_M _ hM)
      simp only at hv hG h8 hM
      subst hv
      refine norm_ (a' := ?_) ?_ ?_
      rotate_left
      · simp only [putAll, Act.put, List.setIfInBounds_toArray, List.set_cons_zero, List.set_cons_succ]
        rfl
      refine last_ (i := 9) (N := none) #[true, true, true, true, true, true, true, true, true, true] rfl rfl (by kernel_rfl) (by decide) (fun K hK => ?_)
      have hth : w'.there g14 0 4 := fun q hq => ⟨by rw [blk_cell h8 (0 + q)]; simp; omega, blk_frozen h8 _⟩
      refine store_mid_step 30 (.tmp 14) (.tmp 53) (by rfl) rfl rfl g14 0 #[.int .i64 kl, .float .f64 xl, .string sl, .slice AL nl cl] rfl rfl hth (by kernel_rfl) (by simp [Value.oneCell']) ?_
      refine hK.out _ _ ?_
      clear hK K
      refine done_ (by kernel_rfl) ?_

      obtain ⟨wD, hwD⟩ : ∃ W', Aside0 (W' = w'.setCells g14 0 [.int .i64 kl, .float .f64 xl, .string sl, .slice AL nl cl]) := ⟨_, ⟨rfl⟩⟩
      rw [← hwD.out]
      have S_wD := Aside0.mk (show wD.heap[g14]? = some (.cells #[.int .i64 kl, .float .f64 xl, .string sl, .slice AL nl cl] 30 (0, 0)) by
        rw [hwD.out]
        have := heap_setCells g14 30 [.int .i64 kl, .float .f64 xl, .string sl, .slice AL nl cl] 0 [.int .i64 0, .float .f64 0, .string ⟨#[]⟩, .slice none 0 0] w' h8 (by simp)
        simpa using this)
      have K_wD := Aside0.mk (show tI.K wD (ta (mulM (turnM (gridM lb k c) k c) (turnM (gridM la r k) r k) c k r)) [.int .i64 kl, .float .f64 xl, .string sl, .slice AL nl cl] by
        rw [hwD.out]
        exact Kd.K_of_M _ (Kd.M_step hM (fun q hq _ => setCells_other _ _ _ _ _ hq)))
      have hbwD : Below wC.heap.size wC wD := by rw [hwD.out]; exact below_setCells hG _ _ _ _ hHeld
      replace S13 := Aside0.mk (blk_below S13.out hbwD)
      replace K13 := Aside0.mk (tI.K_below hbwD K13.out)
      replace hbW := Aside0.mk (below_step hbW.out hbwD)
      clear hbwD hwD hHeld hG h8 hM hW0 hLo hth G1 G2 HK1 HK2
      obtain ⟨P, hP⟩ : ∃ P, Aside0 (P = mulM (turnM (gridM lb k c) k c) (turnM (gridM la r k) r k) c k r) := ⟨_, ⟨rfl⟩⟩
      have hPP : turnM (mulM (gridM la r k) (gridM lb k c) r k c) r c = P := by rw [hP.out, gridM_mat, gridM_mat]; exact turn_mul _ _ _ _ _
      have hs := Aside0.mk (show Sized P c r by rw [hP.out]; exact sized_mul _ _ _ _ _)
      have hf := Aside0.mk (show Fits P by rw [hP.out]; exact FT.out.fits)
      rw [hPP] at K13
      rw [← hP.out] at K_wD
      obtain ⟨A13, c13, he13, hC13⟩ := cellsI_tab _ _ _ K13.out
      obtain ⟨A14, c14, he14, hC14⟩ := cellsI_tab _ _ _ K_wD.out
      rw [hs.out.1] at he13 he14 hC13 hC14
      have T13 := S13.out
      rw [show (#[Value.int .i64 kk, .float .f64 xx, .string ss, .slice AA nn cc] : Array Value) = _ from congrArg List.toArray he13] at T13
      have T14 := S_wD.out
      rw [show (#[Value.int .i64 kl, .float .f64 xl, .string sl, .slice AL nl cl] : Array Value) = _ from congrArg List.toArray he14] at T14
      replace T13 := Aside0.mk T13
      replace T14 := Aside0.mk T14
      replace hC13 := Aside0.mk hC13
      replace hC14 := Aside0.mk hC14
      clear S13 S_wD K13 K_wD he13 he14 hPP hP FXY FM FX FY FT
      have b100 := Aside0.mk (show (1 ≤ c ∧ c ≤ 100) ∧ 1 ≤ r ∧ r ≤ 100 by have := br.out; have := bc.out; omega)
      go_wp2_with (first
        | (refine wpList_load_row rfl 30 (.tmp 13) rfl g13 rfl 30 _ (0, 0) _ T13.out Try.underlying30 rfl (by kernel_rfl) ?_)
        | (refine wpList_load_row rfl 30 (.tmp 14) rfl g14 rfl 30 _ (0, 0) _ T14.out Try.underlying30 rfl (by kernel_rfl) ?_)
        | (go_at_call 12; refine (eqTables P c r b100.out.1 b100.out.2 hs.out hf.out A13 A14 c13 c14 _ hC13.out hC14.out).mono ?_; rintro e w6 ⟨rfl, hb6⟩
           have kl : w6.cell? ⟨g13, 3, none⟩ = some (.slice A13 c c13) := blk_cell (blk_below T13.out hb6) 3
           have hb6 := Aside0.mk hb6))
      go_ret
      exact ⟨rfl, below_step hbW.out hb6.out⟩
    · have z1 : decide ((2147483647 : Int) < (la.length : Int)) = false := decide_eq_false (by omega)
      have z2 : decide ((2147483647 : Int) < (lb.length : Int)) = true := decide_eq_true (by omega)
      go_enter Try.func4, Try.ntmps4
      go_wp2
      go_ret
      exact ⟨rfl, HB⟩
  · have z1 : decide ((2147483647 : Int) < (la.length : Int)) = true := decide_eq_true (by omega)
    go_enter Try.func4, Try.ntmps4
    go_wp2
    go_ret
    exact ⟨rfl, HB⟩
end Go.Proofs.Ytedbbekfpficpaa
