import Derived.Test.YtedbbekfpficpaaLaw
set_option linter.unusedSimpArgs false
set_option linter.unusedVariables false
namespace Go.Proofs.Ytedbbekfpficpaa
open Go.RowKit Go.Proofs.YtedbbekfpficpaaW.PrintWords Go.Proofs.YtedbbekfpficpaaW.PrintLast Fl
/-- A block that holds the elements' cells reads as the list of them. -/
theorem C_list {α : Type} (d : Kd α) {w : World} {g : Nat} {e : TypeId} (L : List (α × List Value)) (hg : w.heap[g]? = some (.cells (L.map (·.2)).flatten.toArray e (0, 0))) (hK : ∀ p ∈ L, d.K w p.1 p.2) (hlen : L.length ≤ 100) : d.C w (some ⟨g, 0, none⟩) L.length (L.map (·.1)) := by
  refine ⟨by simp, by omega, fun _ => ⟨_, rfl, fun j p hj => ?_⟩⟩
  have hjl : j < L.length := by
    have := (List.getElem?_eq_some_iff.1 hj).1
    simpa using this
  have hp : L[j].1 = p := by
    have h1 : (L.map (·.1))[j]? = some L[j].1 := by simp [hjl]
    rw [h1] at hj
    exact Option.some.inj hj
  have hk := hK L[j] (List.getElem_mem hjl)
  rw [hp] at hk
  refine ⟨L[j].2, d.K_len hk, hk, fun i u hu => ?_⟩
  have hl : ∀ l ∈ L.map (·.2), l.length = d.sz := fun l hl => by
    obtain ⟨q, hq, rfl⟩ := List.mem_map.1 hl
    exact d.K_len (hK q hq)
  have hd := flatten_drop hl j L[j].2 (by simp [hjl])
  have hi : i < d.sz := by rw [← d.K_len hk]; exact (List.getElem?_eq_some_iff.1 hu).1
  have hcell := blk_cell hg (j * d.sz + i)
  rw [add_plain, hcell]
  have h2 : ((L.map (·.2)).flatten.drop (j * d.sz)).take d.sz = L[j].2 := hd
  have h3 : (L.map (·.2)).flatten[j * d.sz + i]? = L[j].2[i]? := by
    conv => rhs; rw [← h2]
    rw [List.getElem?_take, if_pos hi, List.getElem?_drop]
  simp only [List.getElem?_toArray]
  rw [h3]; exact hu
theorem C_two {α : Type} (d : Kd α) {w : World} {g : Nat} {e : TypeId} {x y : α} {cx cy : List Value} (hg : w.heap[g]? = some (.cells (cx ++ cy).toArray e (0, 0))) (hx : d.K w x cx) (hy : d.K w y cy) : d.C w (some ⟨g, 0, none⟩) 2 [x, y] :=
  C_list d [(x, cx), (y, cy)] (by simpa using hg) (by
    intro p hp
    simp only [List.mem_cons, List.not_mem_nil, or_false] at hp
    rcases hp with rfl | rfl
    · exact hx
    · exact hy) (by simp)
theorem C_one {α : Type} (d : Kd α) {w : World} {g : Nat} {e : TypeId} {x : α} {cx : List Value} (hg : w.heap[g]? = some (.cells cx.toArray e (0, 0))) (hx : d.K w x cx) : d.C w (some ⟨g, 0, none⟩) 1 [x] :=
  C_list d [(x, cx)] (by simpa using hg) (by
    intro p hp
    simp only [List.mem_cons, List.not_mem_nil, or_false] at hp
    rcases hp with rfl
    exact hx) (by simp)
theorem shapeS_tab (w : World) (m : List (List Int)) (cs : List Value) (h : tS.K w (ta m) cs) : ∃ A n c, cs = [.int .i64 5, .int .i64 0, .int .i64 0, .string ⟨#[]⟩, .slice A n c] := by
  obtain ⟨A, c, h, _⟩ := cellsS_tab w m cs h
  exact ⟨A, _, c, h⟩
theorem cellsI_tab (w : World) (m : List (List Int)) (cs : List Value) (h : tI.K w (ta m) cs) : ∃ A c, cs = [.int .i64 5, fl 0, .string ⟨#[]⟩, .slice A m.length c] ∧ (Kd.slice 30 nI).C w A m.length (m.map (·.map nu)) := by
  obtain ⟨ca, cb, rfl, hca, A1, cc, rfl, hlr, hR⟩ := h
  have hca' : ca = [.int .i64 5, fl 0, .string ⟨#[]⟩] := hca
  subst hca'
  rw [ta_len] at hR ⊢
  exact ⟨A1, cc, rfl, hR⟩
theorem cellsI_num (w : World) (n : Int) (cs : List Value) (h : nI.K w (nu n) cs) : ∃ A k c, cs = [.int .i64 1, fl n, .string ⟨#[]⟩, .slice A k c] := by
  obtain ⟨ca, cb, rfl, hca, A1, cc, rfl, hlr, hR⟩ := h
  have hca' : ca = [.int .i64 1, fl n, .string ⟨#[]⟩] := hca
  subst hca'
  exact ⟨_, _, _, rfl⟩
theorem fitG (la lb : List Int) : Fit2 (gridM la 3 3) (gridM lb 3 3) 3 3 3 := by
  simp only [gridM_mat]
  exact fit2_mat (X := 99) (Y := 99) (by decide) (by decide) (by decide) (fun i j => cellG_bound _ _) (fun i j => cellG_bound _ _) (by decide) (by decide) (by decide)
theorem dotG (la lb : List Int) (i j : Nat) : (dot (gridM la 3 3) (gridM lb 3 3) i j 3).natAbs ≤ 30000 := by
  simp only [gridM_mat]
  have := dot_bound (ent_bound (r := 3) (c := 3) (f := fun i k => cellG la (i * 3 + k)) (fun i j => cellG_bound _ _)) (ent_bound (r := 3) (c := 3) (f := fun i k => cellG lb (i * 3 + k)) (fun i j => cellG_bound _ _)) i j 3
  omega
theorem fitGM (la lb lc : List Int) : Fit2 (mulM (gridM la 3 3) (gridM lb 3 3) 3 3 3) (gridM lc 3 3) 3 3 3 := by
  rw [mulM_mat, gridM_mat lc]
  exact fit2_mat (X := 30000) (Y := 99) (by decide) (by decide) (by decide) (fun i j => dotG _ _ _ _) (fun i j => cellG_bound _ _) (by decide) (by decide) (by decide)
theorem fitMG (la lb lc : List Int) : Fit2 (gridM la 3 3) (mulM (gridM lb 3 3) (gridM lc 3 3) 3 3 3) 3 3 3 := by
  rw [mulM_mat (gridM lb 3 3), gridM_mat la]
  exact fit2_mat (X := 99) (Y := 30000) (by decide) (by decide) (by decide) (fun i j => cellG_bound _ _) (fun i j => dotG _ _ _ _) (by decide) (by decide) (by decide)
attribute [local go_sem] run_store_float
set_option maxHeartbeats 1000000 in
set_option maxRecDepth 100000 in
theorem products (la lb lc : List Int) (A1 A2 A3 : Option Addr) (c1 c2 c3 : Nat) (w : World) (h1 : (Kd.int .i64).C w A1 la.length la) (h2 : (Kd.int .i64).C w A2 lb.length lb) (h3 : (Kd.int .i64).C w A3 lc.length lc) :
    Calls Try.prog 3 #[.slice A1 la.length c1, .slice A2 lb.length c2, .slice A3 lc.length c3] w fun e w' => e = .returned (.bool true) ∧ Below w.heap.size w w' := by
  have HB := Below.refl w.heap.size w
  by_cases ha : la.length ≤ 2147483647
  · by_cases hb : lb.length ≤ 2147483647
    · by_cases hc : lc.length ≤ 2147483647
      · have z1 : decide ((2147483647 : Int) < (la.length : Int)) = false := decide_eq_false (by omega)
        have z2 : decide ((2147483647 : Int) < (lb.length : Int)) = false := decide_eq_false (by omega)
        have z3 : decide ((2147483647 : Int) < (lc.length : Int)) = false := decide_eq_false (by omega)
        replace h1 := Aside0.mk h1
        replace h2 := Aside0.mk h2
        replace h3 := Aside0.mk h3
        have k1 := Aside0.mk trivial
        go_enter Try.func3, Try.ntmps3
        go_wp2_with (first
          | (have hq := k1; clear hq; go_at_call 5; refine (square_ la ha A1 c1 _ h1.out).mono ?_; rintro e w1 ⟨cs1, rfl, hM1, hb1⟩
             obtain ⟨B1, n1, d1, rfl⟩ := shapeS_tab _ _ _ (Kd.K_of_M _ hM1)
             have hK1 := Aside0.mk (Kd.K_of_M _ hM1); have hb1 := Aside0.mk hb1
             have k2 := Aside0.mk trivial
             clear k1 hM1)
          | (have hq := k2; clear hq; go_at_call 5; refine (square_ lb hb A2 c2 _ (Kd.C_below h2.out hb1.out)).mono ?_; rintro e w2 ⟨cs2, rfl, hM2, hb2⟩
             obtain ⟨B2, n2, d2, rfl⟩ := shapeS_tab _ _ _ (Kd.K_of_M _ hM2)
             have hK2 := Aside0.mk (Kd.K_of_M _ hM2); replace hK1 := Aside0.mk (tS.K_below hb2 hK1.out)
             have hb2 := Aside0.mk (below_step hb1.out hb2)
             have k3 := Aside0.mk trivial
             clear k2 hM2)
          | (have hq := k3; clear hq; go_at_call 5; refine (square_ lc hc A3 c3 _ (Kd.C_below h3.out hb2.out)).mono ?_; rintro e w3 ⟨cs3, rfl, hM3, hb3⟩
             obtain ⟨B3, n3, d3, rfl⟩ := shapeS_tab _ _ _ (Kd.K_of_M _ hM3)
             have hK3 := Aside0.mk (Kd.K_of_M _ hM3); replace hK1 := Aside0.mk (tS.K_below hb3 hK1.out); replace hK2 := Aside0.mk (tS.K_below hb3 hK2.out)
             have hb3 := Aside0.mk (below_step hb2.out hb3)
             clear k3 hM3))
        obtain ⟨wB, hwB⟩ : ∃ wB, Aside0 (wB = ((w3.alloc (Obj.cells #[.int .i64 5, .int .i64 0, .int .i64 0, .string ⟨#[]⟩, .slice B1 n1 d1] 25)).alloc (Obj.cells #[.int .i64 5, .int .i64 0, .int .i64 0, .string ⟨#[]⟩, .slice B2 n2 d2] 25)).alloc (Obj.cells #[.int .i64 5, .int .i64 0, .int .i64 0, .string ⟨#[]⟩, .slice B3 n3 d3] 25)) := ⟨_, ⟨rfl⟩⟩
        rw [← hwB.out]
        obtain ⟨g1, hg1⟩ : ∃ g1, Aside0 (g1 = w3.heap.size) := ⟨_, ⟨rfl⟩⟩
        obtain ⟨g2, hg2⟩ : ∃ g2, Aside0 (g2 = w3.heap.size + 1) := ⟨_, ⟨rfl⟩⟩
        obtain ⟨g3, hg3⟩ : ∃ g3, Aside0 (g3 = w3.heap.size + 1 + 1) := ⟨_, ⟨rfl⟩⟩
        have G1 := Aside0.mk (show wB.heap[g1]? = some (.cells #[.int .i64 5, .int .i64 0, .int .i64 0, .string ⟨#[]⟩, .slice B1 n1 d1] 25 (0, 0)) by rw [hwB.out, hg1.out]; exact blk_alloc (blk_alloc (heap_alloc_new _ _) _) _)
        have G2 := Aside0.mk (show wB.heap[g2]? = some (.cells #[.int .i64 5, .int .i64 0, .int .i64 0, .string ⟨#[]⟩, .slice B2 n2 d2] 25 (0, 0)) by rw [hwB.out, hg2.out]; exact blk_alloc (blk_at (by simp)) _)
        have G3 := Aside0.mk (show wB.heap[g3]? = some (.cells #[.int .i64 5, .int .i64 0, .int .i64 0, .string ⟨#[]⟩, .slice B3 n3 d3] 25 (0, 0)) by rw [hwB.out, hg3.out]; exact blk_at (by simp))
        have hbB : Below w3.heap.size w3 wB := by rw [hwB.out]; repeat (first | exact Below.refl _ _ | refine Below.alloc ?_ (by simp <;> omega) _)
        have HK1 := Aside0.mk (tS.K_below hbB hK1.out)
        have HK2 := Aside0.mk (tS.K_below hbB hK2.out)
        have HK3 := Aside0.mk (tS.K_below hbB hK3.out)
        have hbW := Aside0.mk (below_step hb3.out hbB)
        rw [← hg3.out, ← hg2.out, ← hg1.out]
        clear hbB hK1 hK2 hK3 hb1 hb2 hb3 hwB
        have F1 := Aside0.mk (show Fit2 (gridM la 3 3) (gridM lb 3 3) 3 3 3 from fitG la lb)
        have F2 := Aside0.mk (show Fit2 (gridM lb 3 3) (gridM lc 3 3) 3 3 3 from fitG lb lc)
        have F3 := Aside0.mk (show Fit2 (mulM (gridM la 3 3) (gridM lb 3 3) 3 3 3) (gridM lc 3 3) 3 3 3 from fitGM la lb lc)
        have F4 := Aside0.mk (show Fit2 (gridM la 3 3) (mulM (gridM lb 3 3) (gridM lc 3 3) 3 3 3) 3 3 3 from fitMG la lb lc)
        refine start_ (n := 10) (S := fun w' => Below wB.heap.size wB w') (ds := [9]) #[false, false, false, false, false, false, false, false, false, false] (by kernel_rfl) rfl rfl ((Below.refl _ _).drew) (fun hHeld => ?_)
        refine take_ (i := 0) (N := some 33) (v := ?_) (a' := ?_) #[true, false, false, false, false, false, false, false, false, false] rfl rfl (by kernel_rfl) (fun _ _ _ h => h) (Or.inl ⟨by rfl, ?_⟩) hHeld ?_ ?_
        rotate_left
        · intro w' s0
          have e0 : w'.cell? ⟨g1, 0, none⟩ = some (.int .i64 5) := blk_cell (blk_below G1.out s0) 0
          have e1 : w'.cell? ⟨g1, 1, none⟩ = some (.int .i64 0) := blk_cell (blk_below G1.out s0) 1
          have e2 : w'.cell? ⟨g1, 2, none⟩ = some (.int .i64 0) := blk_cell (blk_below G1.out s0) 2
          have e3 : w'.cell? ⟨g1, 3, none⟩ = some (.string ⟨#[]⟩) := blk_cell (blk_below G1.out s0) 3
          have e4 : w'.cell? ⟨g1, 4, none⟩ = some (.slice B1 n1 d1) := blk_cell (blk_below G1.out s0) 4
          go_simp
          with_reducible rfl
        rotate_left
        · simp only [Act.put, List.setIfInBounds_toArray, List.set_cons_zero, List.set_cons_succ, i64_w, i32_w]
          rfl
        refine take_ (i := 1) (N := some 34) (v := ?_) (a' := ?_) #[true, true, false, false, false, false, false, false, false, false] rfl rfl (by kernel_rfl) (fun _ _ _ h => h) (Or.inl ⟨by rfl, ?_⟩) hHeld ?_ ?_
        rotate_left
        · intro w' s0
          have e0 : w'.cell? ⟨g2, 0, none⟩ = some (.int .i64 5) := blk_cell (blk_below G2.out s0) 0
          have e1 : w'.cell? ⟨g2, 1, none⟩ = some (.int .i64 0) := blk_cell (blk_below G2.out s0) 1
          have e2 : w'.cell? ⟨g2, 2, none⟩ = some (.int .i64 0) := blk_cell (blk_below G2.out s0) 2
          have e3 : w'.cell? ⟨g2, 3, none⟩ = some (.string ⟨#[]⟩) := blk_cell (blk_below G2.out s0) 3
          have e4 : w'.cell? ⟨g2, 4, none⟩ = some (.slice B2 n2 d2) := blk_cell (blk_below G2.out s0) 4
          go_simp
          with_reducible rfl
        rotate_left
        · simp only [Act.put, List.setIfInBounds_toArray, List.set_cons_zero, List.set_cons_succ, i64_w, i32_w]
          rfl
        refine take_ (i := 4) (N := some 37) (v := ?_) (a' := ?_) #[true, true, false, false, true, false, false, false, false, false] rfl rfl (by kernel_rfl) (fun _ _ _ h => h) (Or.inl ⟨by rfl, ?_⟩) hHeld ?_ ?_
        rotate_left
        · intro w' s0
          have e0 : w'.cell? ⟨g3, 0, none⟩ = some (.int .i64 5) := blk_cell (blk_below G3.out s0) 0
          have e1 : w'.cell? ⟨g3, 1, none⟩ = some (.int .i64 0) := blk_cell (blk_below G3.out s0) 1
          have e2 : w'.cell? ⟨g3, 2, none⟩ = some (.int .i64 0) := blk_cell (blk_below G3.out s0) 2
          have e3 : w'.cell? ⟨g3, 3, none⟩ = some (.string ⟨#[]⟩) := blk_cell (blk_below G3.out s0) 3
          have e4 : w'.cell? ⟨g3, 4, none⟩ = some (.slice B3 n3 d3) := blk_cell (blk_below G3.out s0) 4
          go_simp
          with_reducible rfl
        rotate_left
        · simp only [Act.put, List.setIfInBounds_toArray, List.set_cons_zero, List.set_cons_succ, i64_w, i32_w]
          rfl
        obtain ⟨W0, hW0⟩ : ∃ W', Aside0 (W' = wB.drew) := ⟨_, ⟨rfl⟩⟩
        rw [← hW0.out] at hHeld ⊢
        have hLo := Aside0.mk hHeld.size
        refine join_ (σ := Nat × Value × Value × Value × Value × Value) 1 #[true, true, true, true, true, true, true, true, true, false] (fun s => [(35, s.2.1), (36, s.2.2.1), (38, s.2.2.2.1), (39, s.2.2.2.2.1), (40, s.2.2.2.2.2), (10, .pointer (some ⟨s.1, 0, none⟩))]) (fun s w' => Below wB.heap.size wB w' ∧ wB.heap.size ≤ s.1 ∧ w'.heap[s.1]? = some (.cells #[.int .i64 0, .float .f64 0, .string ⟨#[]⟩, .slice none 0 0] 30 (0, 0)) ∧ ∃ cs, s.2.2.2.2.2 = .agg cs.toArray ∧ tI.M w' wB.heap.size (fun q => q ≠ s.1) (ta (mulM (mulM (gridM la 3 3) (gridM lb 3 3) 3 3 3) (gridM lc 3 3) 3 3 3)) cs) ?_ ?_
        rotate_left
        · intro hCont
          refine two_ (i := 2) (j := 8) (Ni := some 35) (Nj := some 10) #[true, true, true, false, true, false, false, false, false, false] #[true, true, false, false, true, false, false, false, true, false] rfl rfl rfl rfl (by kernel_rfl) (by decide) (by decide) (fun K hK => ?_) (fun K hK => ?_)
          · skip
            refine value_ (w1 := ?_) (v := ?_) (by rfl) rfl ?_ ?_
            rotate_left 2
            · go_simp
              constructor
              · rfl
              · rfl
            obtain ⟨W1, hW1⟩ : ∃ W', Aside0 (W' = W0.alloc (Obj.cells #[.int .i64 5, .int .i64 0, .int .i64 0, .string ⟨#[]⟩, .slice B1 n1 d1, .int .i64 5, .int .i64 0, .int .i64 0, .string ⟨#[]⟩, .slice B2 n2 d2] 25)) := ⟨_, ⟨rfl⟩⟩
            rw [← hW1.out]
            have hb1 : Below W0.heap.size W0 W1 := by rw [hW1.out]; exact (Below.refl _ _).alloc (Nat.le_refl _) _
            have H2 := Aside0.mk (C_two tS (show W1.heap[W0.heap.size]? = some (.cells (([.int .i64 5, .int .i64 0, .int .i64 0, .string ⟨#[]⟩, .slice B1 n1 d1] : List Value) ++ ([.int .i64 5, .int .i64 0, .int .i64 0, .string ⟨#[]⟩, .slice B2 n2 d2] : List Value)).toArray 25 (0, 0)) by rw [hW1.out]; exact heap_alloc_new _ _) (tS.K_below (below_step hHeld hb1) HK1.out) (tS.K_below (below_step hHeld hb1) HK2.out))
            refine hK.out _ _ ((below_step hHeld hb1)) (fun hHeld => ?_)
            clear hK K
            refine norm_ (a' := ?_) ?_ ?_
            rotate_left
            · show Act.put _ (some 35) _ = _
              simp only [Act.put, List.setIfInBounds_toArray, List.set_cons_zero, List.set_cons_succ, i64_w, i32_w]
              rfl
            refine two_ (i := 3) (j := 8) (Ni := some 36) (Nj := some 10) #[true, true, true, true, true, false, false, false, false, false] #[true, true, true, false, true, false, false, false, true, false] rfl rfl rfl rfl (by kernel_rfl) (by decide) (by decide) (fun K hK => ?_) (fun K hK => ?_)
            · skip
              refine goes_ Try.func7 (by kernel_rfl) rfl #[.func (.func 6) #[] #[], .slice (some ⟨W0.heap.size, 0, none⟩) 2 2] (by rfl) rfl rfl (by simp only [List.map_toArray, List.map_cons, List.map_nil]; rfl) ?_
              with_reducible refine (askMul (gridM la 3 3) (gridM lb 3 3) 3 3 3 F1.out _ _ _ H2.out).mono ?_
              rintro e W2 ⟨cs, rfl, hM, hb2⟩
              refine ⟨_, rfl, ?_⟩
              obtain ⟨kq3, xq3, sq3, Aq3, nq3, cq3, rfl⟩ := shapeI _ _ _ _ (Kd.K_of_M _ hM)
              replace H2 := Aside0.mk (Kd.C_below H2.out hb2)
              have H3 := Aside0.mk (Kd.K_of_M _ hM)
              refine hK.out _ _ ((below_step hHeld hb2)) (fun hHeld => ?_)
              clear hK K
              refine norm_ (a' := ?_) ?_ ?_
              rotate_left
              · show Act.put _ (some 36) _ = _
                simp only [Act.put, List.setIfInBounds_toArray, List.set_cons_zero, List.set_cons_succ, i64_w, i32_w]
                rfl
              refine two_ (i := 5) (j := 8) (Ni := some 38) (Nj := some 10) #[true, true, true, true, true, true, false, false, false, false] #[true, true, true, true, true, false, false, false, true, false] rfl rfl rfl rfl (by kernel_rfl) (by decide) (by decide) (fun K hK => ?_) (fun K hK => ?_)
              · skip
                refine goes_ Try.func8 (by kernel_rfl) rfl #[.agg #[.int .i64 5, .int .i64 0, .int .i64 0, .string ⟨#[]⟩, .slice B3 n3 d3]] (by rfl) rfl rfl (by simp only [List.map_toArray, List.map_cons, List.map_nil]; rfl) ?_
                with_reducible refine (ofTable (gridM lc 3 3) F3.out.good.2.2 _ _ (tS.K_below hHeld HK3.out)).mono ?_
                rintro e W3 ⟨cs, rfl, hM, hb3⟩
                refine ⟨_, rfl, ?_⟩
                obtain ⟨kq5, xq5, sq5, Aq5, nq5, cq5, rfl⟩ := shapeI _ _ _ _ (Kd.K_of_M _ hM)
                replace H2 := Aside0.mk (Kd.C_below H2.out hb3)
                replace H3 := Aside0.mk (tI.K_below hb3 H3.out)
                have H5 := Aside0.mk (Kd.K_of_M _ hM)
                refine hK.out _ _ ((below_step hHeld hb3)) (fun hHeld => ?_)
                clear hK K
                refine norm_ (a' := ?_) ?_ ?_
                rotate_left
                · show Act.put _ (some 38) _ = _
                  simp only [Act.put, List.setIfInBounds_toArray, List.set_cons_zero, List.set_cons_succ, i64_w, i32_w]
                  rfl
                refine two_ (i := 6) (j := 8) (Ni := some 39) (Nj := some 10) #[true, true, true, true, true, true, true, false, false, false] #[true, true, true, true, true, true, false, false, true, false] rfl rfl rfl rfl (by kernel_rfl) (by decide) (by decide) (fun K hK => ?_) (fun K hK => ?_)
                · skip
                  refine value_ (w1 := ?_) (v := ?_) (by rfl) rfl ?_ ?_
                  rotate_left 2
                  · go_simp
                    constructor
                    · rfl
                    · rfl
                  obtain ⟨W4, hW4⟩ : ∃ W', Aside0 (W' = W3.alloc (Obj.cells #[.int .i64 kq3, .float .f64 xq3, .string sq3, .slice Aq3 nq3 cq3, .int .i64 kq5, .float .f64 xq5, .string sq5, .slice Aq5 nq5 cq5] 30)) := ⟨_, ⟨rfl⟩⟩
                  rw [← hW4.out]
                  have hb4 : Below W3.heap.size W3 W4 := by rw [hW4.out]; exact (Below.refl _ _).alloc (Nat.le_refl _) _
                  replace H2 := Aside0.mk (Kd.C_below H2.out hb4)
                  replace H3 := Aside0.mk (tI.K_below hb4 H3.out)
                  replace H5 := Aside0.mk (tI.K_below hb4 H5.out)
                  have H6 := Aside0.mk (C_two tI (show W4.heap[W3.heap.size]? = some (.cells (([.int .i64 kq3, .float .f64 xq3, .string sq3, .slice Aq3 nq3 cq3] : List Value) ++ ([.int .i64 kq5, .float .f64 xq5, .string sq5, .slice Aq5 nq5 cq5] : List Value)).toArray 30 (0, 0)) by rw [hW4.out]; exact heap_alloc_new _ _) H3.out H5.out)
                  refine hK.out _ _ ((below_step hHeld hb4)) (fun hHeld => ?_)
                  clear hK K
                  refine norm_ (a' := ?_) ?_ ?_
                  rotate_left
                  · show Act.put _ (some 39) _ = _
                    simp only [Act.put, List.setIfInBounds_toArray, List.set_cons_zero, List.set_cons_succ, i64_w, i32_w]
                    rfl
                  refine two_ (i := 7) (j := 8) (Ni := some 40) (Nj := some 10) #[true, true, true, true, true, true, true, true, false, false] #[true, true, true, true, true, true, true, false, true, false] rfl rfl rfl rfl (by kernel_rfl) (by decide) (by decide) (fun K hK => ?_) (fun K hK => ?_)
                  · skip
                    have HLs := Aside0.mk hHeld.size
                    refine goes_ Try.func6 (by kernel_rfl) rfl #[.slice (some ⟨W3.heap.size, 0, none⟩) 2 2] (by rfl) rfl rfl (by simp only [List.map_toArray, List.map_cons, List.map_nil]; rfl) ?_
                    with_reducible refine (implMul (mulM (gridM la 3 3) (gridM lb 3 3) 3 3 3) (gridM lc 3 3) 3 3 3 F3.out _ _ _ H6.out).mono ?_
                    rintro e W5 ⟨cs, rfl, hM, hb5⟩
                    refine ⟨_, rfl, ?_⟩
                    obtain ⟨kq7, xq7, sq7, Aq7, nq7, cq7, rfl⟩ := shapeI _ _ _ _ (Kd.K_of_M _ hM)
                    replace H2 := Aside0.mk (Kd.C_below H2.out hb5)
                    replace H3 := Aside0.mk (tI.K_below hb5 H3.out)
                    replace H5 := Aside0.mk (tI.K_below hb5 H5.out)
                    replace H6 := Aside0.mk (Kd.C_below H6.out hb5)
                    have H7 := Aside0.mk (tI.M_mono (ok' := fun q => W4.heap.size ≤ q ∧ q < W5.heap.size) (fun q hq => ⟨hq.2.1, hq.2.2.1⟩) (tI.M_bound hM))
                    refine hK.out _ _ ((below_step hHeld hb5)) (fun hHeld => ?_)
                    clear hK K
                    refine norm_ (a' := ?_) ?_ ?_
                    rotate_left
                    · show Act.put _ (some 40) _ = _
                      simp only [Act.put, List.setIfInBounds_toArray, List.set_cons_zero, List.set_cons_succ, i64_w, i32_w]
                      rfl
                    refine one_ (i := 8) (N := some 10) #[true, true, true, true, true, true, true, true, true, false] rfl rfl (by kernel_rfl) (by decide) (fun K hK => ?_)
                    refine value_ (w1 := ?_) (v := ?_) (by rfl) rfl ?_ ?_
                    rotate_left 2
                    · go_simp
                      constructor
                      · rfl
                      · rfl
                    obtain ⟨W6, hW6⟩ : ∃ W', Aside0 (W' = W5.alloc (Obj.cells #[.int .i64 0, .float .f64 0, .string ⟨#[]⟩, .slice none 0 0] 30)) := ⟨_, ⟨rfl⟩⟩
                    rw [← hW6.out]
                    have hb6 : Below W5.heap.size W5 W6 := by rw [hW6.out]; exact (Below.refl _ _).alloc (Nat.le_refl _) _
                    replace H2 := Aside0.mk (Kd.C_below H2.out hb6)
                    replace H3 := Aside0.mk (tI.K_below hb6 H3.out)
                    replace H5 := Aside0.mk (tI.K_below hb6 H5.out)
                    replace H6 := Aside0.mk (Kd.C_below H6.out hb6)
                    replace H7 := Aside0.mk (Kd.M_below H7.out hb6)
                    have H8 := Aside0.mk (show W6.heap[W5.heap.size]? = some (.cells #[.int .i64 0, .float .f64 0, .string ⟨#[]⟩, .slice none 0 0] 30 (0, 0)) by rw [hW6.out]; exact heap_alloc_new _ _)
                    have HZ := Aside0.mk (show W5.heap.size < W6.heap.size by rw [hW6.out]; simp)
                    have HG := Aside0.mk hHeld.size
                    have HQ := Aside0.mk (show ∀ q, W4.heap.size ≤ q ∧ q < W5.heap.size → q ≠ W5.heap.size from fun q hq => by omega)
                    refine hK.out _ _ ((below_step hHeld hb6)) (fun hHeld => ?_)
                    clear hK K
                    refine norm_ (a' := ?_) ?_ ?_
                    rotate_left
                    · show Act.put _ (some 10) _ = _
                      simp only [Act.put, List.setIfInBounds_toArray, List.set_cons_zero, List.set_cons_succ, i64_w, i32_w]
                      rfl
                    exact norm_ (by simp only [putAll, Act.put, List.setIfInBounds_toArray, List.set_cons_zero, List.set_cons_succ]) (hCont (W5.heap.size, .slice (some ⟨W0.heap.size, 0, none⟩) 2 2, .agg #[.int .i64 kq3, .float .f64 xq3, .string sq3, .slice Aq3 nq3 cq3], .agg #[.int .i64 kq5, .float .f64 xq5, .string sq5, .slice Aq5 nq5 cq5], .slice (some ⟨W3.heap.size, 0, none⟩) 2 2, .agg #[.int .i64 kq7, .float .f64 xq7, .string sq7, .slice Aq7 nq7 cq7]) _ ⟨hHeld, HG.out, H8.out, _, rfl, tI.M_mono HQ.out (Kd.M_lower tI HLs.out H7.out)⟩)
                  · skip
                    refine value_ (w1 := ?_) (v := ?_) (by rfl) rfl ?_ ?_
                    rotate_left 2
                    · go_simp
                      constructor
                      · rfl
                      · rfl
                    obtain ⟨W5, hW5⟩ : ∃ W', Aside0 (W' = W4.alloc (Obj.cells #[.int .i64 0, .float .f64 0, .string ⟨#[]⟩, .slice none 0 0] 30)) := ⟨_, ⟨rfl⟩⟩
                    rw [← hW5.out]
                    have hb5 : Below W4.heap.size W4 W5 := by rw [hW5.out]; exact (Below.refl _ _).alloc (Nat.le_refl _) _
                    replace H2 := Aside0.mk (Kd.C_below H2.out hb5)
                    replace H3 := Aside0.mk (tI.K_below hb5 H3.out)
                    replace H5 := Aside0.mk (tI.K_below hb5 H5.out)
                    replace H6 := Aside0.mk (Kd.C_below H6.out hb5)
                    have H8 := Aside0.mk (show W5.heap[W4.heap.size]? = some (.cells #[.int .i64 0, .float .f64 0, .string ⟨#[]⟩, .slice none 0 0] 30 (0, 0)) by rw [hW5.out]; exact heap_alloc_new _ _)
                    have HZ := Aside0.mk (show W4.heap.size < W5.heap.size by rw [hW5.out]; simp)
                    have HG := Aside0.mk hHeld.size
                    refine hK.out _ _ ((below_step hHeld hb5)) (fun hHeld => ?_)
                    clear hK K
                    refine norm_ (a' := ?_) ?_ ?_
                    rotate_left
                    · show Act.put _ (some 10) _ = _
                      simp only [Act.put, List.setIfInBounds_toArray, List.set_cons_zero, List.set_cons_succ, i64_w, i32_w]
                      rfl
                    refine one_ (i := 7) (N := some 40) #[true, true, true, true, true, true, true, true, true, false] rfl rfl (by kernel_rfl) (by decide) (fun K hK => ?_)
                    have HLs := Aside0.mk hHeld.size
                    refine goes_ Try.func6 (by kernel_rfl) rfl #[.slice (some ⟨W3.heap.size, 0, none⟩) 2 2] (by rfl) rfl rfl (by simp only [List.map_toArray, List.map_cons, List.map_nil]; rfl) ?_
                    with_reducible refine (implMul (mulM (gridM la 3 3) (gridM lb 3 3) 3 3 3) (gridM lc 3 3) 3 3 3 F3.out _ _ _ H6.out).mono ?_
                    rintro e W6 ⟨cs, rfl, hM, hb6⟩
                    refine ⟨_, rfl, ?_⟩
                    obtain ⟨kq7, xq7, sq7, Aq7, nq7, cq7, rfl⟩ := shapeI _ _ _ _ (Kd.K_of_M _ hM)
                    replace H2 := Aside0.mk (Kd.C_below H2.out hb6)
                    replace H3 := Aside0.mk (tI.K_below hb6 H3.out)
                    replace H5 := Aside0.mk (tI.K_below hb6 H5.out)
                    replace H6 := Aside0.mk (Kd.C_below H6.out hb6)
                    replace H8 := Aside0.mk (blk_below H8.out hb6)
                    have hZ0 := HZ.out
                    replace HZ := Aside0.mk (Nat.lt_of_lt_of_le HZ.out hb6.size)
                    have H7 := Aside0.mk (tI.M_mono (ok' := fun q => W5.heap.size ≤ q ∧ q < W6.heap.size) (fun q hq => ⟨hq.2.1, hq.2.2.1⟩) (tI.M_bound hM))
                    have HQ := Aside0.mk (show ∀ q, W5.heap.size ≤ q ∧ q < W6.heap.size → q ≠ W4.heap.size from fun q hq => by have := hZ0; omega)
                    refine hK.out _ _ ((below_step hHeld hb6)) (fun hHeld => ?_)
                    clear hK K
                    refine norm_ (a' := ?_) ?_ ?_
                    rotate_left
                    · show Act.put _ (some 40) _ = _
                      simp only [Act.put, List.setIfInBounds_toArray, List.set_cons_zero, List.set_cons_succ, i64_w, i32_w]
                      rfl
                    exact norm_ (by simp only [putAll, Act.put, List.setIfInBounds_toArray, List.set_cons_zero, List.set_cons_succ]) (hCont (W4.heap.size, .slice (some ⟨W0.heap.size, 0, none⟩) 2 2, .agg #[.int .i64 kq3, .float .f64 xq3, .string sq3, .slice Aq3 nq3 cq3], .agg #[.int .i64 kq5, .float .f64 xq5, .string sq5, .slice Aq5 nq5 cq5], .slice (some ⟨W3.heap.size, 0, none⟩) 2 2, .agg #[.int .i64 kq7, .float .f64 xq7, .string sq7, .slice Aq7 nq7 cq7]) _ ⟨hHeld, HG.out, H8.out, _, rfl, tI.M_mono HQ.out (Kd.M_lower tI HLs.out H7.out)⟩)
                · skip
                  refine value_ (w1 := ?_) (v := ?_) (by rfl) rfl ?_ ?_
                  rotate_left 2
                  · go_simp
                    constructor
                    · rfl
                    · rfl
                  obtain ⟨W4, hW4⟩ : ∃ W', Aside0 (W' = W3.alloc (Obj.cells #[.int .i64 0, .float .f64 0, .string ⟨#[]⟩, .slice none 0 0] 30)) := ⟨_, ⟨rfl⟩⟩
                  rw [← hW4.out]
                  have hb4 : Below W3.heap.size W3 W4 := by rw [hW4.out]; exact (Below.refl _ _).alloc (Nat.le_refl _) _
                  replace H2 := Aside0.mk (Kd.C_below H2.out hb4)
                  replace H3 := Aside0.mk (tI.K_below hb4 H3.out)
                  replace H5 := Aside0.mk (tI.K_below hb4 H5.out)
                  have H8 := Aside0.mk (show W4.heap[W3.heap.size]? = some (.cells #[.int .i64 0, .float .f64 0, .string ⟨#[]⟩, .slice none 0 0] 30 (0, 0)) by rw [hW4.out]; exact heap_alloc_new _ _)
                  have HZ := Aside0.mk (show W3.heap.size < W4.heap.size by rw [hW4.out]; simp)
                  have HG := Aside0.mk hHeld.size
                  refine hK.out _ _ ((below_step hHeld hb4)) (fun hHeld => ?_)
                  clear hK K
                  refine norm_ (a' := ?_) ?_ ?_
                  rotate_left
                  · show Act.put _ (some 10) _ = _
                    simp only [Act.put, List.setIfInBounds_toArray, List.set_cons_zero, List.set_cons_succ, i64_w, i32_w]
                    rfl
                  refine one_ (i := 6) (N := some 39) #[true, true, true, true, true, true, true, false, true, false] rfl rfl (by kernel_rfl) (by decide) (fun K hK => ?_)
                  refine value_ (w1 := ?_) (v := ?_) (by rfl) rfl ?_ ?_
                  rotate_left 2
                  · go_simp
                    constructor
                    · rfl
                    · rfl
                  obtain ⟨W5, hW5⟩ : ∃ W', Aside0 (W' = W4.alloc (Obj.cells #[.int .i64 kq3, .float .f64 xq3, .string sq3, .slice Aq3 nq3 cq3, .int .i64 kq5, .float .f64 xq5, .string sq5, .slice Aq5 nq5 cq5] 30)) := ⟨_, ⟨rfl⟩⟩
                  rw [← hW5.out]
                  have hb5 : Below W4.heap.size W4 W5 := by rw [hW5.out]; exact (Below.refl _ _).alloc (Nat.le_refl _) _
                  replace H2 := Aside0.mk (Kd.C_below H2.out hb5)
                  replace H3 := Aside0.mk (tI.K_below hb5 H3.out)
                  replace H5 := Aside0.mk (tI.K_below hb5 H5.out)
                  replace H8 := Aside0.mk (blk_below H8.out hb5)
                  replace HZ := Aside0.mk (Nat.lt_of_lt_of_le HZ.out hb5.size)
                  have H6 := Aside0.mk (C_two tI (show W5.heap[W4.heap.size]? = some (.cells (([.int .i64 kq3, .float .f64 xq3, .string sq3, .slice Aq3 nq3 cq3] : List Value) ++ ([.int .i64 kq5, .float .f64 xq5, .string sq5, .slice Aq5 nq5 cq5] : List Value)).toArray 30 (0, 0)) by rw [hW5.out]; exact heap_alloc_new _ _) H3.out H5.out)
                  refine hK.out _ _ ((below_step hHeld hb5)) (fun hHeld => ?_)
                  clear hK K
                  refine norm_ (a' := ?_) ?_ ?_
                  rotate_left
                  · show Act.put _ (some 39) _ = _
                    simp only [Act.put, List.setIfInBounds_toArray, List.set_cons_zero, List.set_cons_succ, i64_w, i32_w]
                    rfl
                  refine one_ (i := 7) (N := some 40) #[true, true, true, true, true, true, true, true, true, false] rfl rfl (by kernel_rfl) (by decide) (fun K hK => ?_)
                  have HLs := Aside0.mk hHeld.size
                  refine goes_ Try.func6 (by kernel_rfl) rfl #[.slice (some ⟨W4.heap.size, 0, none⟩) 2 2] (by rfl) rfl rfl (by simp only [List.map_toArray, List.map_cons, List.map_nil]; rfl) ?_
                  with_reducible refine (implMul (mulM (gridM la 3 3) (gridM lb 3 3) 3 3 3) (gridM lc 3 3) 3 3 3 F3.out _ _ _ H6.out).mono ?_
                  rintro e W6 ⟨cs, rfl, hM, hb6⟩
                  refine ⟨_, rfl, ?_⟩
                  obtain ⟨kq7, xq7, sq7, Aq7, nq7, cq7, rfl⟩ := shapeI _ _ _ _ (Kd.K_of_M _ hM)
                  replace H2 := Aside0.mk (Kd.C_below H2.out hb6)
                  replace H3 := Aside0.mk (tI.K_below hb6 H3.out)
                  replace H5 := Aside0.mk (tI.K_below hb6 H5.out)
                  replace H8 := Aside0.mk (blk_below H8.out hb6)
                  have hZ0 := HZ.out
                  replace HZ := Aside0.mk (Nat.lt_of_lt_of_le HZ.out hb6.size)
                  replace H6 := Aside0.mk (Kd.C_below H6.out hb6)
                  have H7 := Aside0.mk (tI.M_mono (ok' := fun q => W5.heap.size ≤ q ∧ q < W6.heap.size) (fun q hq => ⟨hq.2.1, hq.2.2.1⟩) (tI.M_bound hM))
                  have HQ := Aside0.mk (show ∀ q, W5.heap.size ≤ q ∧ q < W6.heap.size → q ≠ W3.heap.size from fun q hq => by have := hZ0; omega)
                  refine hK.out _ _ ((below_step hHeld hb6)) (fun hHeld => ?_)
                  clear hK K
                  refine norm_ (a' := ?_) ?_ ?_
                  rotate_left
                  · show Act.put _ (some 40) _ = _
                    simp only [Act.put, List.setIfInBounds_toArray, List.set_cons_zero, List.set_cons_succ, i64_w, i32_w]
                    rfl
                  exact norm_ (by simp only [putAll, Act.put, List.setIfInBounds_toArray, List.set_cons_zero, List.set_cons_succ]) (hCont (W3.heap.size, .slice (some ⟨W0.heap.size, 0, none⟩) 2 2, .agg #[.int .i64 kq3, .float .f64 xq3, .string sq3, .slice Aq3 nq3 cq3], .agg #[.int .i64 kq5, .float .f64 xq5, .string sq5, .slice Aq5 nq5 cq5], .slice (some ⟨W4.heap.size, 0, none⟩) 2 2, .agg #[.int .i64 kq7, .float .f64 xq7, .string sq7, .slice Aq7 nq7 cq7]) _ ⟨hHeld, HG.out, H8.out, _, rfl, tI.M_mono HQ.out (Kd.M_lower tI HLs.out H7.out)⟩)
              · skip
                refine value_ (w1 := ?_) (v := ?_) (by rfl) rfl ?_ ?_
                rotate_left 2
                · go_simp
                  constructor
                  · rfl
                  · rfl
                obtain ⟨W3, hW3⟩ : ∃ W', Aside0 (W' = W2.alloc (Obj.cells #[.int .i64 0, .float .f64 0, .string ⟨#[]⟩, .slice none 0 0] 30)) := ⟨_, ⟨rfl⟩⟩
                rw [← hW3.out]
                have hb3 : Below W2.heap.size W2 W3 := by rw [hW3.out]; exact (Below.refl _ _).alloc (Nat.le_refl _) _
                replace H2 := Aside0.mk (Kd.C_below H2.out hb3)
                replace H3 := Aside0.mk (tI.K_below hb3 H3.out)
                have H8 := Aside0.mk (show W3.heap[W2.heap.size]? = some (.cells #[.int .i64 0, .float .f64 0, .string ⟨#[]⟩, .slice none 0 0] 30 (0, 0)) by rw [hW3.out]; exact heap_alloc_new _ _)
                have HZ := Aside0.mk (show W2.heap.size < W3.heap.size by rw [hW3.out]; simp)
                have HG := Aside0.mk hHeld.size
                refine hK.out _ _ ((below_step hHeld hb3)) (fun hHeld => ?_)
                clear hK K
                refine norm_ (a' := ?_) ?_ ?_
                rotate_left
                · show Act.put _ (some 10) _ = _
                  simp only [Act.put, List.setIfInBounds_toArray, List.set_cons_zero, List.set_cons_succ, i64_w, i32_w]
                  rfl
                refine one_ (i := 5) (N := some 38) #[true, true, true, true, true, true, false, false, true, false] rfl rfl (by kernel_rfl) (by decide) (fun K hK => ?_)
                refine goes_ Try.func8 (by kernel_rfl) rfl #[.agg #[.int .i64 5, .int .i64 0, .int .i64 0, .string ⟨#[]⟩, .slice B3 n3 d3]] (by rfl) rfl rfl (by simp only [List.map_toArray, List.map_cons, List.map_nil]; rfl) ?_
                with_reducible refine (ofTable (gridM lc 3 3) F3.out.good.2.2 _ _ (tS.K_below hHeld HK3.out)).mono ?_
                rintro e W4 ⟨cs, rfl, hM, hb4⟩
                refine ⟨_, rfl, ?_⟩
                obtain ⟨kq5, xq5, sq5, Aq5, nq5, cq5, rfl⟩ := shapeI _ _ _ _ (Kd.K_of_M _ hM)
                replace H2 := Aside0.mk (Kd.C_below H2.out hb4)
                replace H3 := Aside0.mk (tI.K_below hb4 H3.out)
                replace H8 := Aside0.mk (blk_below H8.out hb4)
                replace HZ := Aside0.mk (Nat.lt_of_lt_of_le HZ.out hb4.size)
                have H5 := Aside0.mk (Kd.K_of_M _ hM)
                refine hK.out _ _ ((below_step hHeld hb4)) (fun hHeld => ?_)
                clear hK K
                refine norm_ (a' := ?_) ?_ ?_
                rotate_left
                · show Act.put _ (some 38) _ = _
                  simp only [Act.put, List.setIfInBounds_toArray, List.set_cons_zero, List.set_cons_succ, i64_w, i32_w]
                  rfl
                refine one_ (i := 6) (N := some 39) #[true, true, true, true, true, true, true, false, true, false] rfl rfl (by kernel_rfl) (by decide) (fun K hK => ?_)
                refine value_ (w1 := ?_) (v := ?_) (by rfl) rfl ?_ ?_
                rotate_left 2
                · go_simp
                  constructor
                  · rfl
                  · rfl
                obtain ⟨W5, hW5⟩ : ∃ W', Aside0 (W' = W4.alloc (Obj.cells #[.int .i64 kq3, .float .f64 xq3, .string sq3, .slice Aq3 nq3 cq3, .int .i64 kq5, .float .f64 xq5, .string sq5, .slice Aq5 nq5 cq5] 30)) := ⟨_, ⟨rfl⟩⟩
                rw [← hW5.out]
                have hb5 : Below W4.heap.size W4 W5 := by rw [hW5.out]; exact (Below.refl _ _).alloc (Nat.le_refl _) _
                replace H2 := Aside0.mk (Kd.C_below H2.out hb5)
                replace H3 := Aside0.mk (tI.K_below hb5 H3.out)
                replace H8 := Aside0.mk (blk_below H8.out hb5)
                replace HZ := Aside0.mk (Nat.lt_of_lt_of_le HZ.out hb5.size)
                replace H5 := Aside0.mk (tI.K_below hb5 H5.out)
                have H6 := Aside0.mk (C_two tI (show W5.heap[W4.heap.size]? = some (.cells (([.int .i64 kq3, .float .f64 xq3, .string sq3, .slice Aq3 nq3 cq3] : List Value) ++ ([.int .i64 kq5, .float .f64 xq5, .string sq5, .slice Aq5 nq5 cq5] : List Value)).toArray 30 (0, 0)) by rw [hW5.out]; exact heap_alloc_new _ _) H3.out H5.out)
                refine hK.out _ _ ((below_step hHeld hb5)) (fun hHeld => ?_)
                clear hK K
                refine norm_ (a' := ?_) ?_ ?_
                rotate_left
                · show Act.put _ (some 39) _ = _
                  simp only [Act.put, List.setIfInBounds_toArray, List.set_cons_zero, List.set_cons_succ, i64_w, i32_w]
                  rfl
                refine one_ (i := 7) (N := some 40) #[true, true, true, true, true, true, true, true, true, false] rfl rfl (by kernel_rfl) (by decide) (fun K hK => ?_)
                have HLs := Aside0.mk hHeld.size
                refine goes_ Try.func6 (by kernel_rfl) rfl #[.slice (some ⟨W4.heap.size, 0, none⟩) 2 2] (by rfl) rfl rfl (by simp only [List.map_toArray, List.map_cons, List.map_nil]; rfl) ?_
                with_reducible refine (implMul (mulM (gridM la 3 3) (gridM lb 3 3) 3 3 3) (gridM lc 3 3) 3 3 3 F3.out _ _ _ H6.out).mono ?_
                rintro e W6 ⟨cs, rfl, hM, hb6⟩
                refine ⟨_, rfl, ?_⟩
                obtain ⟨kq7, xq7, sq7, Aq7, nq7, cq7, rfl⟩ := shapeI _ _ _ _ (Kd.K_of_M _ hM)
                replace H2 := Aside0.mk (Kd.C_below H2.out hb6)
                replace H3 := Aside0.mk (tI.K_below hb6 H3.out)
                replace H8 := Aside0.mk (blk_below H8.out hb6)
                have hZ0 := HZ.out
                replace HZ := Aside0.mk (Nat.lt_of_lt_of_le HZ.out hb6.size)
                replace H5 := Aside0.mk (tI.K_below hb6 H5.out)
                replace H6 := Aside0.mk (Kd.C_below H6.out hb6)
                have H7 := Aside0.mk (tI.M_mono (ok' := fun q => W5.heap.size ≤ q ∧ q < W6.heap.size) (fun q hq => ⟨hq.2.1, hq.2.2.1⟩) (tI.M_bound hM))
                have HQ := Aside0.mk (show ∀ q, W5.heap.size ≤ q ∧ q < W6.heap.size → q ≠ W2.heap.size from fun q hq => by have := hZ0; omega)
                refine hK.out _ _ ((below_step hHeld hb6)) (fun hHeld => ?_)
                clear hK K
                refine norm_ (a' := ?_) ?_ ?_
                rotate_left
                · show Act.put _ (some 40) _ = _
                  simp only [Act.put, List.setIfInBounds_toArray, List.set_cons_zero, List.set_cons_succ, i64_w, i32_w]
                  rfl
                exact norm_ (by simp only [putAll, Act.put, List.setIfInBounds_toArray, List.set_cons_zero, List.set_cons_succ]) (hCont (W2.heap.size, .slice (some ⟨W0.heap.size, 0, none⟩) 2 2, .agg #[.int .i64 kq3, .float .f64 xq3, .string sq3, .slice Aq3 nq3 cq3], .agg #[.int .i64 kq5, .float .f64 xq5, .string sq5, .slice Aq5 nq5 cq5], .slice (some ⟨W4.heap.size, 0, none⟩) 2 2, .agg #[.int .i64 kq7, .float .f64 xq7, .string sq7, .slice Aq7 nq7 cq7]) _ ⟨hHeld, HG.out, H8.out, _, rfl, tI.M_mono HQ.out (Kd.M_lower tI HLs.out H7.out)⟩)
            · skip
              refine value_ (w1 := ?_) (v := ?_) (by rfl) rfl ?_ ?_
              rotate_left 2
              · go_simp
                constructor
                · rfl
                · rfl
              obtain ⟨W2, hW2⟩ : ∃ W', Aside0 (W' = W1.alloc (Obj.cells #[.int .i64 0, .float .f64 0, .string ⟨#[]⟩, .slice none 0 0] 30)) := ⟨_, ⟨rfl⟩⟩
              rw [← hW2.out]
              have hb2 : Below W1.heap.size W1 W2 := by rw [hW2.out]; exact (Below.refl _ _).alloc (Nat.le_refl _) _
              replace H2 := Aside0.mk (Kd.C_below H2.out hb2)
              have H8 := Aside0.mk (show W2.heap[W1.heap.size]? = some (.cells #[.int .i64 0, .float .f64 0, .string ⟨#[]⟩, .slice none 0 0] 30 (0, 0)) by rw [hW2.out]; exact heap_alloc_new _ _)
              have HZ := Aside0.mk (show W1.heap.size < W2.heap.size by rw [hW2.out]; simp)
              have HG := Aside0.mk hHeld.size
              refine hK.out _ _ ((below_step hHeld hb2)) (fun hHeld => ?_)
              clear hK K
              refine norm_ (a' := ?_) ?_ ?_
              rotate_left
              · show Act.put _ (some 10) _ = _
                simp only [Act.put, List.setIfInBounds_toArray, List.set_cons_zero, List.set_cons_succ, i64_w, i32_w]
                rfl
              refine one_ (i := 3) (N := some 36) #[true, true, true, true, true, false, false, false, true, false] rfl rfl (by kernel_rfl) (by decide) (fun K hK => ?_)
              refine goes_ Try.func7 (by kernel_rfl) rfl #[.func (.func 6) #[] #[], .slice (some ⟨W0.heap.size, 0, none⟩) 2 2] (by rfl) rfl rfl (by simp only [List.map_toArray, List.map_cons, List.map_nil]; rfl) ?_
              with_reducible refine (askMul (gridM la 3 3) (gridM lb 3 3) 3 3 3 F1.out _ _ _ H2.out).mono ?_
              rintro e W3 ⟨cs, rfl, hM, hb3⟩
              refine ⟨_, rfl, ?_⟩
              obtain ⟨kq3, xq3, sq3, Aq3, nq3, cq3, rfl⟩ := shapeI _ _ _ _ (Kd.K_of_M _ hM)
              replace H2 := Aside0.mk (Kd.C_below H2.out hb3)
              replace H8 := Aside0.mk (blk_below H8.out hb3)
              replace HZ := Aside0.mk (Nat.lt_of_lt_of_le HZ.out hb3.size)
              have H3 := Aside0.mk (Kd.K_of_M _ hM)
              refine hK.out _ _ ((below_step hHeld hb3)) (fun hHeld => ?_)
              clear hK K
              refine norm_ (a' := ?_) ?_ ?_
              rotate_left
              · show Act.put _ (some 36) _ = _
                simp only [Act.put, List.setIfInBounds_toArray, List.set_cons_zero, List.set_cons_succ, i64_w, i32_w]
                rfl
              refine one_ (i := 5) (N := some 38) #[true, true, true, true, true, true, false, false, true, false] rfl rfl (by kernel_rfl) (by decide) (fun K hK => ?_)
              refine goes_ Try.func8 (by kernel_rfl) rfl #[.agg #[.int .i64 5, .int .i64 0, .int .i64 0, .string ⟨#[]⟩, .slice B3 n3 d3]] (by rfl) rfl rfl (by simp only [List.map_toArray, List.map_cons, List.map_nil]; rfl) ?_
              with_reducible refine (ofTable (gridM lc 3 3) F3.out.good.2.2 _ _ (tS.K_below hHeld HK3.out)).mono ?_
              rintro e W4 ⟨cs, rfl, hM, hb4⟩
              refine ⟨_, rfl, ?_⟩
              obtain ⟨kq5, xq5, sq5, Aq5, nq5, cq5, rfl⟩ := shapeI _ _ _ _ (Kd.K_of_M _ hM)
              replace H2 := Aside0.mk (Kd.C_below H2.out hb4)
              replace H8 := Aside0.mk (blk_below H8.out hb4)
              replace HZ := Aside0.mk (Nat.lt_of_lt_of_le HZ.out hb4.size)
              replace H3 := Aside0.mk (tI.K_below hb4 H3.out)
              have H5 := Aside0.mk (Kd.K_of_M _ hM)
              refine hK.out _ _ ((below_step hHeld hb4)) (fun hHeld => ?_)
              clear hK K
              refine norm_ (a' := ?_) ?_ ?_
              rotate_left
              · show Act.put _ (some 38) _ = _
                simp only [Act.put, List.setIfInBounds_toArray, List.set_cons_zero, List.set_cons_succ, i64_w, i32_w]
                rfl
              refine one_ (i := 6) (N := some 39) #[true, true, true, true, true, true, true, false, true, false] rfl rfl (by kernel_rfl) (by decide) (fun K hK => ?_)
              refine value_ (w1 := ?_) (v := ?_) (by rfl) rfl ?_ ?_
              rotate_left 2
              · go_simp
                constructor
                · rfl
                · rfl
              obtain ⟨W5, hW5⟩ : ∃ W', Aside0 (W' = W4.alloc (Obj.cells #[.int .i64 kq3, .float .f64 xq3, .string sq3, .slice Aq3 nq3 cq3, .int .i64 kq5, .float .f64 xq5, .string sq5, .slice Aq5 nq5 cq5] 30)) := ⟨_, ⟨rfl⟩⟩
              rw [← hW5.out]
              have hb5 : Below W4.heap.size W4 W5 := by rw [hW5.out]; exact (Below.refl _ _).alloc (Nat.le_refl _) _
              replace H2 := Aside0.mk (Kd.C_below H2.out hb5)
              replace H8 := Aside0.mk (blk_below H8.out hb5)
              replace HZ := Aside0.mk (Nat.lt_of_lt_of_le HZ.out hb5.size)
              replace H3 := Aside0.mk (tI.K_below hb5 H3.out)
              replace H5 := Aside0.mk (tI.K_below hb5 H5.out)
              have H6 := Aside0.mk (C_two tI (show W5.heap[W4.heap.size]? = some (.cells (([.int .i64 kq3, .float .f64 xq3, .string sq3, .slice Aq3 nq3 cq3] : List Value) ++ ([.int .i64 kq5, .float .f64 xq5, .string sq5, .slice Aq5 nq5 cq5] : List Value)).toArray 30 (0, 0)) by rw [hW5.out]; exact heap_alloc_new _ _) H3.out H5.out)
              refine hK.out _ _ ((below_step hHeld hb5)) (fun hHeld => ?_)
              clear hK K
              refine norm_ (a' := ?_) ?_ ?_
              rotate_left
              · show Act.put _ (some 39) _ = _
                simp only [Act.put, List.setIfInBounds_toArray, List.set_cons_zero, List.set_cons_succ, i64_w, i32_w]
                rfl
              refine one_ (i := 7) (N := some 40) #[true, true, true, true, true, true, true, true, true, false] rfl rfl (by kernel_rfl) (by decide) (fun K hK => ?_)
              have HLs := Aside0.mk hHeld.size
              refine goes_ Try.func6 (by kernel_rfl) rfl #[.slice (some ⟨W4.heap.size, 0, none⟩) 2 2] (by rfl) rfl rfl (by simp only [List.map_toArray, List.map_cons, List.map_nil]; rfl) ?_
              with_reducible refine (implMul (mulM (gridM la 3 3) (gridM lb 3 3) 3 3 3) (gridM lc 3 3) 3 3 3 F3.out _ _ _ H6.out).mono ?_
              rintro e W6 ⟨cs, rfl, hM, hb6⟩
              refine ⟨_, rfl, ?_⟩
              obtain ⟨kq7, xq7, sq7, Aq7, nq7, cq7, rfl⟩ := shapeI _ _ _ _ (Kd.K_of_M _ hM)
              replace H2 := Aside0.mk (Kd.C_below H2.out hb6)
              replace H8 := Aside0.mk (blk_below H8.out hb6)
              have hZ0 := HZ.out
              replace HZ := Aside0.mk (Nat.lt_of_lt_of_le HZ.out hb6.size)
              replace H3 := Aside0.mk (tI.K_below hb6 H3.out)
              replace H5 := Aside0.mk (tI.K_below hb6 H5.out)
              replace H6 := Aside0.mk (Kd.C_below H6.out hb6)
              have H7 := Aside0.mk (tI.M_mono (ok' := fun q => W5.heap.size ≤ q ∧ q < W6.heap.size) (fun q hq => ⟨hq.2.1, hq.2.2.1⟩) (tI.M_bound hM))
              have HQ := Aside0.mk (show ∀ q, W5.heap.size ≤ q ∧ q < W6.heap.size → q ≠ W1.heap.size from fun q hq => by have := hZ0; omega)
              refine hK.out _ _ ((below_step hHeld hb6)) (fun hHeld => ?_)
              clear hK K
              refine norm_ (a' := ?_) ?_ ?_
              rotate_left
              · show Act.put _ (some 40) _ = _
                simp only [Act.put, List.setIfInBounds_toArray, List.set_cons_zero, List.set_cons_succ, i64_w, i32_w]
                rfl
              exact norm_ (by simp only [putAll, Act.put, List.setIfInBounds_toArray, List.set_cons_zero, List.set_cons_succ]) (hCont (W1.heap.size, .slice (some ⟨W0.heap.size, 0, none⟩) 2 2, .agg #[.int .i64 kq3, .float .f64 xq3, .string sq3, .slice Aq3 nq3 cq3], .agg #[.int .i64 kq5, .float .f64 xq5, .string sq5, .slice Aq5 nq5 cq5], .slice (some ⟨W4.heap.size, 0, none⟩) 2 2, .agg #[.int .i64 kq7, .float .f64 xq7, .string sq7, .slice Aq7 nq7 cq7]) _ ⟨hHeld, HG.out, H8.out, _, rfl, tI.M_mono HQ.out (Kd.M_lower tI HLs.out H7.out)⟩)
          · skip
            refine value_ (w1 := ?_) (v := ?_) (by rfl) rfl ?_ ?_
            rotate_left 2
            · go_simp
              constructor
              · rfl
              · rfl
            obtain ⟨W1, hW1⟩ : ∃ W', Aside0 (W' = W0.alloc (Obj.cells #[.int .i64 0, .float .f64 0, .string ⟨#[]⟩, .slice none 0 0] 30)) := ⟨_, ⟨rfl⟩⟩
            rw [← hW1.out]
            have hb1 : Below W0.heap.size W0 W1 := by rw [hW1.out]; exact (Below.refl _ _).alloc (Nat.le_refl _) _
            have H8 := Aside0.mk (show W1.heap[W0.heap.size]? = some (.cells #[.int .i64 0, .float .f64 0, .string ⟨#[]⟩, .slice none 0 0] 30 (0, 0)) by rw [hW1.out]; exact heap_alloc_new _ _)
            have HZ := Aside0.mk (show W0.heap.size < W1.heap.size by rw [hW1.out]; simp)
            have HG := Aside0.mk hHeld.size
            refine hK.out _ _ ((below_step hHeld hb1)) (fun hHeld => ?_)
            clear hK K
            refine norm_ (a' := ?_) ?_ ?_
            rotate_left
            · show Act.put _ (some 10) _ = _
              simp only [Act.put, List.setIfInBounds_toArray, List.set_cons_zero, List.set_cons_succ, i64_w, i32_w]
              rfl
            refine one_ (i := 2) (N := some 35) #[true, true, true, false, true, false, false, false, true, false] rfl rfl (by kernel_rfl) (by decide) (fun K hK => ?_)
            refine value_ (w1 := ?_) (v := ?_) (by rfl) rfl ?_ ?_
            rotate_left 2
            · go_simp
              constructor
              · rfl
              · rfl
            obtain ⟨W2, hW2⟩ : ∃ W', Aside0 (W' = W1.alloc (Obj.cells #[.int .i64 5, .int .i64 0, .int .i64 0, .string ⟨#[]⟩, .slice B1 n1 d1, .int .i64 5, .int .i64 0, .int .i64 0, .string ⟨#[]⟩, .slice B2 n2 d2] 25)) := ⟨_, ⟨rfl⟩⟩
            rw [← hW2.out]
            have hb2 : Below W1.heap.size W1 W2 := by rw [hW2.out]; exact (Below.refl _ _).alloc (Nat.le_refl _) _
            replace H8 := Aside0.mk (blk_below H8.out hb2)
            replace HZ := Aside0.mk (Nat.lt_of_lt_of_le HZ.out hb2.size)
            have H2 := Aside0.mk (C_two tS (show W2.heap[W1.heap.size]? = some (.cells (([.int .i64 5, .int .i64 0, .int .i64 0, .string ⟨#[]⟩, .slice B1 n1 d1] : List Value) ++ ([.int .i64 5, .int .i64 0, .int .i64 0, .string ⟨#[]⟩, .slice B2 n2 d2] : List Value)).toArray 25 (0, 0)) by rw [hW2.out]; exact heap_alloc_new _ _) (tS.K_below (below_step hHeld hb2) HK1.out) (tS.K_below (below_step hHeld hb2) HK2.out))
            refine hK.out _ _ ((below_step hHeld hb2)) (fun hHeld => ?_)
            clear hK K
            refine norm_ (a' := ?_) ?_ ?_
            rotate_left
            · show Act.put _ (some 35) _ = _
              simp only [Act.put, List.setIfInBounds_toArray, List.set_cons_zero, List.set_cons_succ, i64_w, i32_w]
              rfl
            refine one_ (i := 3) (N := some 36) #[true, true, true, true, true, false, false, false, true, false] rfl rfl (by kernel_rfl) (by decide) (fun K hK => ?_)
            refine goes_ Try.func7 (by kernel_rfl) rfl #[.func (.func 6) #[] #[], .slice (some ⟨W1.heap.size, 0, none⟩) 2 2] (by rfl) rfl rfl (by simp only [List.map_toArray, List.map_cons, List.map_nil]; rfl) ?_
            with_reducible refine (askMul (gridM la 3 3) (gridM lb 3 3) 3 3 3 F1.out _ _ _ H2.out).mono ?_
            rintro e W3 ⟨cs, rfl, hM, hb3⟩
            refine ⟨_, rfl, ?_⟩
            obtain ⟨kq3, xq3, sq3, Aq3, nq3, cq3, rfl⟩ := shapeI _ _ _ _ (Kd.K_of_M _ hM)
            replace H8 := Aside0.mk (blk_below H8.out hb3)
            replace HZ := Aside0.mk (Nat.lt_of_lt_of_le HZ.out hb3.size)
            replace H2 := Aside0.mk (Kd.C_below H2.out hb3)
            have H3 := Aside0.mk (Kd.K_of_M _ hM)
            refine hK.out _ _ ((below_step hHeld hb3)) (fun hHeld => ?_)
            clear hK K
            refine norm_ (a' := ?_) ?_ ?_
            rotate_left
            · show Act.put _ (some 36) _ = _
              simp only [Act.put, List.setIfInBounds_toArray, List.set_cons_zero, List.set_cons_succ, i64_w, i32_w]
              rfl
            refine one_ (i := 5) (N := some 38) #[true, true, true, true, true, true, false, false, true, false] rfl rfl (by kernel_rfl) (by decide) (fun K hK => ?_)
            refine goes_ Try.func8 (by kernel_rfl) rfl #[.agg #[.int .i64 5, .int .i64 0, .int .i64 0, .string ⟨#[]⟩, .slice B3 n3 d3]] (by rfl) rfl rfl (by simp only [List.map_toArray, List.map_cons, List.map_nil]; rfl) ?_
            with_reducible refine (ofTable (gridM lc 3 3) F3.out.good.2.2 _ _ (tS.K_below hHeld HK3.out)).mono ?_
            rintro e W4 ⟨cs, rfl, hM, hb4⟩
            refine ⟨_, rfl, ?_⟩
            obtain ⟨kq5, xq5, sq5, Aq5, nq5, cq5, rfl⟩ := shapeI _ _ _ _ (Kd.K_of_M _ hM)
            replace H8 := Aside0.mk (blk_below H8.out hb4)
            replace HZ := Aside0.mk (Nat.lt_of_lt_of_le HZ.out hb4.size)
            replace H2 := Aside0.mk (Kd.C_below H2.out hb4)
            replace H3 := Aside0.mk (tI.K_below hb4 H3.out)
            have H5 := Aside0.mk (Kd.K_of_M _ hM)
            refine hK.out _ _ ((below_step hHeld hb4)) (fun hHeld => ?_)
            clear hK K
            refine norm_ (a' := ?_) ?_ ?_
            rotate_left
            · show Act.put _ (some 38) _ = _
              simp only [Act.put, List.setIfInBounds_toArray, List.set_cons_zero, List.set_cons_succ, i64_w, i32_w]
              rfl
            refine one_ (i := 6) (N := some 39) #[true, true, true, true, true, true, true, false, true, false] rfl rfl (by kernel_rfl) (by decide) (fun K hK => ?_)
            refine value_ (w1 := ?_) (v := ?_) (by rfl) rfl ?_ ?_
            rotate_left 2
            · go_simp
              constructor
              · rfl
              · rfl
            obtain ⟨W5, hW5⟩ : ∃ W', Aside0 (W' = W4.alloc (Obj.cells #[.int .i64 kq3, .float .f64 xq3, .string sq3, .slice Aq3 nq3 cq3, .int .i64 kq5, .float .f64 xq5, .string sq5, .slice Aq5 nq5 cq5] 30)) := ⟨_, ⟨rfl⟩⟩
            rw [← hW5.out]
            have hb5 : Below W4.heap.size W4 W5 := by rw [hW5.out]; exact (Below.refl _ _).alloc (Nat.le_refl _) _
            replace H8 := Aside0.mk (blk_below H8.out hb5)
            replace HZ := Aside0.mk (Nat.lt_of_lt_of_le HZ.out hb5.size)
            replace H2 := Aside0.mk (Kd.C_below H2.out hb5)
            replace H3 := Aside0.mk (tI.K_below hb5 H3.out)
            replace H5 := Aside0.mk (tI.K_below hb5 H5.out)
            have H6 := Aside0.mk (C_two tI (show W5.heap[W4.heap.size]? = some (.cells (([.int .i64 kq3, .float .f64 xq3, .string sq3, .slice Aq3 nq3 cq3] : List Value) ++ ([.int .i64 kq5, .float .f64 xq5, .string sq5, .slice Aq5 nq5 cq5] : List Value)).toArray 30 (0, 0)) by rw [hW5.out]; exact heap_alloc_new _ _) H3.out H5.out)
            refine hK.out _ _ ((below_step hHeld hb5)) (fun hHeld => ?_)
            clear hK K
            refine norm_ (a' := ?_) ?_ ?_
            rotate_left
            · show Act.put _ (some 39) _ = _
              simp only [Act.put, List.setIfInBounds_toArray, List.set_cons_zero, List.set_cons_succ, i64_w, i32_w]
              rfl
            refine one_ (i := 7) (N := some 40) #[true, true, true, true, true, true, true, true, true, false] rfl rfl (by kernel_rfl) (by decide) (fun K hK => ?_)
            have HLs := Aside0.mk hHeld.size
            refine goes_ Try.func6 (by kernel_rfl) rfl #[.slice (some ⟨W4.heap.size, 0, none⟩) 2 2] (by rfl) rfl rfl (by simp only [List.map_toArray, List.map_cons, List.map_nil]; rfl) ?_
            with_reducible refine (implMul (mulM (gridM la 3 3) (gridM lb 3 3) 3 3 3) (gridM lc 3 3) 3 3 3 F3.out _ _ _ H6.out).mono ?_
            rintro e W6 ⟨cs, rfl, hM, hb6⟩
            refine ⟨_, rfl, ?_⟩
            obtain ⟨kq7, xq7, sq7, Aq7, nq7, cq7, rfl⟩ := shapeI _ _ _ _ (Kd.K_of_M _ hM)
            replace H8 := Aside0.mk (blk_below H8.out hb6)
            have hZ0 := HZ.out
            replace HZ := Aside0.mk (Nat.lt_of_lt_of_le HZ.out hb6.size)
            replace H2 := Aside0.mk (Kd.C_below H2.out hb6)
            replace H3 := Aside0.mk (tI.K_below hb6 H3.out)
            replace H5 := Aside0.mk (tI.K_below hb6 H5.out)
            replace H6 := Aside0.mk (Kd.C_below H6.out hb6)
            have H7 := Aside0.mk (tI.M_mono (ok' := fun q => W5.heap.size ≤ q ∧ q < W6.heap.size) (fun q hq => ⟨hq.2.1, hq.2.2.1⟩) (tI.M_bound hM))
            have HQ := Aside0.mk (show ∀ q, W5.heap.size ≤ q ∧ q < W6.heap.size → q ≠ W0.heap.size from fun q hq => by have := hZ0; omega)
            refine hK.out _ _ ((below_step hHeld hb6)) (fun hHeld => ?_)
            clear hK K
            refine norm_ (a' := ?_) ?_ ?_
            rotate_left
            · show Act.put _ (some 40) _ = _
              simp only [Act.put, List.setIfInBounds_toArray, List.set_cons_zero, List.set_cons_succ, i64_w, i32_w]
              rfl
            exact norm_ (by simp only [putAll, Act.put, List.setIfInBounds_toArray, List.set_cons_zero, List.set_cons_succ]) (hCont (W0.heap.size, .slice (some ⟨W1.heap.size, 0, none⟩) 2 2, .agg #[.int .i64 kq3, .float .f64 xq3, .string sq3, .slice Aq3 nq3 cq3], .agg #[.int .i64 kq5, .float .f64 xq5, .string sq5, .slice Aq5 nq5 cq5], .slice (some ⟨W4.heap.size, 0, none⟩) 2 2, .agg #[.int .i64 kq7, .float .f64 xq7, .string sq7, .slice Aq7 nq7 cq7]) _ ⟨hHeld, HG.out, H8.out, _, rfl, tI.M_mono HQ.out (Kd.M_lower tI HLs.out H7.out)⟩)
        rintro ⟨g10, v35, v36, v38, v39, v40⟩ w' ⟨hHeld, hG, h8, cs, hv, hM⟩
        obtain ⟨kk, xx, ss, AA, nn, cc, rfl⟩ := shapeI _ _ _ _ (Kd.K_of_M _ hM)
        simp only at hv hG h8 hM
        subst hv
        refine norm_ (a' := ?_) ?_ ?_
        rotate_left
        · simp only [putAll, Act.put, List.setIfInBounds_toArray, List.set_cons_zero, List.set_cons_succ]
          rfl
        refine last_ (i := 9) (N := none) #[true, true, true, true, true, true, true, true, true, true] rfl rfl (by kernel_rfl) (by decide) (fun K hK => ?_)
        have hth : w'.there g10 0 4 := fun q hq => ⟨by rw [blk_cell h8 (0 + q)]; simp; omega, blk_frozen h8 _⟩
        refine store_mid_step 30 (.tmp 10) (.tmp 40) (by rfl) rfl rfl g10 0 #[.int .i64 kk, .float .f64 xx, .string ss, .slice AA nn cc] rfl rfl hth (by kernel_rfl) (by simp [Value.oneCell']) ?_
        refine hK.out _ _ ?_
        clear hK K
        refine done_ (by kernel_rfl) ?_

        obtain ⟨wC, hwC⟩ : ∃ W', Aside0 (W' = w'.setCells g10 0 [.int .i64 kk, .float .f64 xx, .string ss, .slice AA nn cc]) := ⟨_, ⟨rfl⟩⟩
        rw [← hwC.out]
        have S_wC := Aside0.mk (show wC.heap[g10]? = some (.cells #[.int .i64 kk, .float .f64 xx, .string ss, .slice AA nn cc] 30 (0, 0)) by
          rw [hwC.out]
          have := heap_setCells g10 30 [.int .i64 kk, .float .f64 xx, .string ss, .slice AA nn cc] 0 [.int .i64 0, .float .f64 0, .string ⟨#[]⟩, .slice none 0 0] w' h8 (by simp)
          simpa using this)
        have K_wC := Aside0.mk (show tI.K wC (ta (mulM (mulM (gridM la 3 3) (gridM lb 3 3) 3 3 3) (gridM lc 3 3) 3 3 3)) [.int .i64 kk, .float .f64 xx, .string ss, .slice AA nn cc] by
          rw [hwC.out]
          exact Kd.K_of_M _ (Kd.M_step hM (fun q hq _ => setCells_other _ _ _ _ _ hq)))
        have hbwC : Below wB.heap.size wB wC := by rw [hwC.out]; exact below_setCells hG _ _ _ _ hHeld
        replace G1 := Aside0.mk (blk_below G1.out hbwC)
        replace G2 := Aside0.mk (blk_below G2.out hbwC)
        replace G3 := Aside0.mk (blk_below G3.out hbwC)
        replace HK1 := Aside0.mk (tS.K_below hbwC HK1.out)
        replace HK2 := Aside0.mk (tS.K_below hbwC HK2.out)
        replace HK3 := Aside0.mk (tS.K_below hbwC HK3.out)
        replace hbW := Aside0.mk (below_step hbW.out hbwC)
        clear hbwC hwC hHeld hG h8 hM hW0 hLo hth
        go_wp2
        refine start_ (n := 10) (S := fun w' => Below wC.heap.size wC w') (ds := [9]) #[false, false, false, false, false, false, false, false, false, false] (by kernel_rfl) rfl rfl ((Below.refl _ _).drew) (fun hHeld => ?_)
        refine take_ (i := 0) (N := some 41) (v := ?_) (a' := ?_) #[true, false, false, false, false, false, false, false, false, false] rfl rfl (by kernel_rfl) (fun _ _ _ h => h) (Or.inl ⟨by rfl, ?_⟩) hHeld ?_ ?_
        rotate_left
        · intro w' s0
          have e0 : w'.cell? ⟨g1, 0, none⟩ = some (.int .i64 5) := blk_cell (blk_below G1.out s0) 0
          have e1 : w'.cell? ⟨g1, 1, none⟩ = some (.int .i64 0) := blk_cell (blk_below G1.out s0) 1
          have e2 : w'.cell? ⟨g1, 2, none⟩ = some (.int .i64 0) := blk_cell (blk_below G1.out s0) 2
          have e3 : w'.cell? ⟨g1, 3, none⟩ = some (.string ⟨#[]⟩) := blk_cell (blk_below G1.out s0) 3
          have e4 : w'.cell? ⟨g1, 4, none⟩ = some (.slice B1 n1 d1) := blk_cell (blk_below G1.out s0) 4
          go_simp
          with_reducible rfl
        rotate_left
        · simp only [Act.put, List.setIfInBounds_toArray, List.set_cons_zero, List.set_cons_succ, i64_w, i32_w]
          rfl
        refine take_ (i := 2) (N := some 43) (v := ?_) (a' := ?_) #[true, false, true, false, false, false, false, false, false, false] rfl rfl (by kernel_rfl) (fun _ _ _ h => h) (Or.inl ⟨by rfl, ?_⟩) hHeld ?_ ?_
        rotate_left
        · intro w' s0
          have e0 : w'.cell? ⟨g2, 0, none⟩ = some (.int .i64 5) := blk_cell (blk_below G2.out s0) 0
          have e1 : w'.cell? ⟨g2, 1, none⟩ = some (.int .i64 0) := blk_cell (blk_below G2.out s0) 1
          have e2 : w'.cell? ⟨g2, 2, none⟩ = some (.int .i64 0) := blk_cell (blk_below G2.out s0) 2
          have e3 : w'.cell? ⟨g2, 3, none⟩ = some (.string ⟨#[]⟩) := blk_cell (blk_below G2.out s0) 3
          have e4 : w'.cell? ⟨g2, 4, none⟩ = some (.slice B2 n2 d2) := blk_cell (blk_below G2.out s0) 4
          go_simp
          with_reducible rfl
        rotate_left
        · simp only [Act.put, List.setIfInBounds_toArray, List.set_cons_zero, List.set_cons_succ, i64_w, i32_w]
          rfl
        refine take_ (i := 3) (N := some 44) (v := ?_) (a' := ?_) #[true, false, true, true, false, false, false, false, false, false] rfl rfl (by kernel_rfl) (fun _ _ _ h => h) (Or.inl ⟨by rfl, ?_⟩) hHeld ?_ ?_
        rotate_left
        · intro w' s0
          have e0 : w'.cell? ⟨g3, 0, none⟩ = some (.int .i64 5) := blk_cell (blk_below G3.out s0) 0
          have e1 : w'.cell? ⟨g3, 1, none⟩ = some (.int .i64 0) := blk_cell (blk_below G3.out s0) 1
          have e2 : w'.cell? ⟨g3, 2, none⟩ = some (.int .i64 0) := blk_cell (blk_below G3.out s0) 2
          have e3 : w'.cell? ⟨g3, 3, none⟩ = some (.string ⟨#[]⟩) := blk_cell (blk_below G3.out s0) 3
          have e4 : w'.cell? ⟨g3, 4, none⟩ = some (.slice B3 n3 d3) := blk_cell (blk_below G3.out s0) 4
          go_simp
          with_reducible rfl
        rotate_left
        · simp only [Act.put, List.setIfInBounds_toArray, List.set_cons_zero, List.set_cons_succ, i64_w, i32_w]
          rfl
        obtain ⟨W0, hW0⟩ : ∃ W', Aside0 (W' = wC.drew) := ⟨_, ⟨rfl⟩⟩
        rw [← hW0.out] at hHeld ⊢
        have hLo := Aside0.mk hHeld.size
        refine join_ (σ := Nat × Value × Value × Value × Value × Value) 1 #[true, true, true, true, true, true, true, true, true, false] (fun s => [(42, s.2.1), (45, s.2.2.1), (46, s.2.2.2.1), (47, s.2.2.2.2.1), (48, s.2.2.2.2.2), (11, .pointer (some ⟨s.1, 0, none⟩))]) (fun s w' => Below wC.heap.size wC w' ∧ wC.heap.size ≤ s.1 ∧ w'.heap[s.1]? = some (.cells #[.int .i64 0, .float .f64 0, .string ⟨#[]⟩, .slice none 0 0] 30 (0, 0)) ∧ ∃ cs, s.2.2.2.2.2 = .agg cs.toArray ∧ tI.M w' wC.heap.size (fun q => q ≠ s.1) (ta (mulM (gridM la 3 3) (mulM (gridM lb 3 3) (gridM lc 3 3) 3 3 3) 3 3 3)) cs) ?_ ?_
        rotate_left
        · intro hCont
          refine three_ (i := 1) (j := 4) (k := 8) (Ni := some 42) (Nj := some 45) (Nk := some 11) #[true, true, true, true, false, false, false, false, false, false] #[true, false, true, true, true, false, false, false, false, false] #[true, false, true, true, false, false, false, false, true, false] rfl rfl rfl rfl rfl rfl (by kernel_rfl) (by decide) (by decide) (by decide) (fun K hK => ?_) (fun K hK => ?_) (fun K hK => ?_)
          · skip
            refine goes_ Try.func8 (by kernel_rfl) rfl #[.agg #[.int .i64 5, .int .i64 0, .int .i64 0, .string ⟨#[]⟩, .slice B1 n1 d1]] (by rfl) rfl rfl (by simp only [List.map_toArray, List.map_cons, List.map_nil]; rfl) ?_
            with_reducible refine (ofTable (gridM la 3 3) F1.out.good.1.2 _ _ (tS.K_below hHeld HK1.out)).mono ?_
            rintro e W1 ⟨cs, rfl, hM, hb1⟩
            refine ⟨_, rfl, ?_⟩
            obtain ⟨kq1, xq1, sq1, Aq1, nq1, cq1, rfl⟩ := shapeI _ _ _ _ (Kd.K_of_M _ hM)
            have H1 := Aside0.mk (Kd.K_of_M _ hM)
            refine hK.out _ _ ((below_step hHeld hb1)) (fun hHeld => ?_)
            clear hK K
            refine norm_ (a' := ?_) ?_ ?_
            rotate_left
            · show Act.put _ (some 42) _ = _
              simp only [Act.put, List.setIfInBounds_toArray, List.set_cons_zero, List.set_cons_succ, i64_w, i32_w]
              rfl
            refine two_ (i := 4) (j := 8) (Ni := some 45) (Nj := some 11) #[true, true, true, true, true, false, false, false, false, false] #[true, true, true, true, false, false, false, false, true, false] rfl rfl rfl rfl (by kernel_rfl) (by decide) (by decide) (fun K hK => ?_) (fun K hK => ?_)
            · skip
              refine value_ (w1 := ?_) (v := ?_) (by rfl) rfl ?_ ?_
              rotate_left 2
              · go_simp
                constructor
                · rfl
                · rfl
              obtain ⟨W2, hW2⟩ : ∃ W', Aside0 (W' = W1.alloc (Obj.cells #[.int .i64 5, .int .i64 0, .int .i64 0, .string ⟨#[]⟩, .slice B2 n2 d2, .int .i64 5, .int .i64 0, .int .i64 0, .string ⟨#[]⟩, .slice B3 n3 d3] 25)) := ⟨_, ⟨rfl⟩⟩
              rw [← hW2.out]
              have hb2 : Below W1.heap.size W1 W2 := by rw [hW2.out]; exact (Below.refl _ _).alloc (Nat.le_refl _) _
              replace H1 := Aside0.mk (tI.K_below hb2 H1.out)
              have H4 := Aside0.mk (C_two tS (show W2.heap[W1.heap.size]? = some (.cells (([.int .i64 5, .int .i64 0, .int .i64 0, .string ⟨#[]⟩, .slice B2 n2 d2] : List Value) ++ ([.int .i64 5, .int .i64 0, .int .i64 0, .string ⟨#[]⟩, .slice B3 n3 d3] : List Value)).toArray 25 (0, 0)) by rw [hW2.out]; exact heap_alloc_new _ _) (tS.K_below (below_step hHeld hb2) HK2.out) (tS.K_below (below_step hHeld hb2) HK3.out))
              refine hK.out _ _ ((below_step hHeld hb2)) (fun hHeld => ?_)
              clear hK K
              refine norm_ (a' := ?_) ?_ ?_
              rotate_left
              · show Act.put _ (some 45) _ = _
                simp only [Act.put, List.setIfInBounds_toArray, List.set_cons_zero, List.set_cons_succ, i64_w, i32_w]
                rfl
              refine two_ (i := 5) (j := 8) (Ni := some 46) (Nj := some 11) #[true, true, true, true, true, true, false, false, false, false] #[true, true, true, true, true, false, false, false, true, false] rfl rfl rfl rfl (by kernel_rfl) (by decide) (by decide) (fun K hK => ?_) (fun K hK => ?_)
              · skip
                refine goes_ Try.func7 (by kernel_rfl) rfl #[.func (.func 6) #[] #[], .slice (some ⟨W1.heap.size, 0, none⟩) 2 2] (by rfl) rfl rfl (by simp only [List.map_toArray, List.map_cons, List.map_nil]; rfl) ?_
                with_reducible refine (askMul (gridM lb 3 3) (gridM lc 3 3) 3 3 3 F2.out _ _ _ H4.out).mono ?_
                rintro e W3 ⟨cs, rfl, hM, hb3⟩
                refine ⟨_, rfl, ?_⟩
                obtain ⟨kq5, xq5, sq5, Aq5, nq5, cq5, rfl⟩ := shapeI _ _ _ _ (Kd.K_of_M _ hM)
                replace H1 := Aside0.mk (tI.K_below hb3 H1.out)
                replace H4 := Aside0.mk (Kd.C_below H4.out hb3)
                have H5 := Aside0.mk (Kd.K_of_M _ hM)
                refine hK.out _ _ ((below_step hHeld hb3)) (fun hHeld => ?_)
                clear hK K
                refine norm_ (a' := ?_) ?_ ?_
                rotate_left
                · show Act.put _ (some 46) _ = _
                  simp only [Act.put, List.setIfInBounds_toArray, List.set_cons_zero, List.set_cons_succ, i64_w, i32_w]
                  rfl
                refine two_ (i := 6) (j := 8) (Ni := some 47) (Nj := some 11) #[true, true, true, true, true, true, true, false, false, false] #[true, true, true, true, true, true, false, false, true, false] rfl rfl rfl rfl (by kernel_rfl) (by decide) (by decide) (fun K hK => ?_) (fun K hK => ?_)
                · skip
                  refine value_ (w1 := ?_) (v := ?_) (by rfl) rfl ?_ ?_
                  rotate_left 2
                  · go_simp
                    constructor
                    · rfl
                    · rfl
                  obtain ⟨W4, hW4⟩ : ∃ W', Aside0 (W' = W3.alloc (Obj.cells #[.int .i64 kq1, .float .f64 xq1, .string sq1, .slice Aq1 nq1 cq1, .int .i64 kq5, .float .f64 xq5, .string sq5, .slice Aq5 nq5 cq5] 30)) := ⟨_, ⟨rfl⟩⟩
                  rw [← hW4.out]
                  have hb4 : Below W3.heap.size W3 W4 := by rw [hW4.out]; exact (Below.refl _ _).alloc (Nat.le_refl _) _
                  replace H1 := Aside0.mk (tI.K_below hb4 H1.out)
                  replace H4 := Aside0.mk (Kd.C_below H4.out hb4)
                  replace H5 := Aside0.mk (tI.K_below hb4 H5.out)
                  have H6 := Aside0.mk (C_two tI (show W4.heap[W3.heap.size]? = some (.cells (([.int .i64 kq1, .float .f64 xq1, .string sq1, .slice Aq1 nq1 cq1] : List Value) ++ ([.int .i64 kq5, .float .f64 xq5, .string sq5, .slice Aq5 nq5 cq5] : List Value)).toArray 30 (0, 0)) by rw [hW4.out]; exact heap_alloc_new _ _) H1.out H5.out)
                  refine hK.out _ _ ((below_step hHeld hb4)) (fun hHeld => ?_)
                  clear hK K
                  refine norm_ (a' := ?_) ?_ ?_
                  rotate_left
                  · show Act.put _ (some 47) _ = _
                    simp only [Act.put, List.setIfInBounds_toArray, List.set_cons_zero, List.set_cons_succ, i64_w, i32_w]
                    rfl
                  refine two_ (i := 7) (j := 8) (Ni := some 48) (Nj := some 11) #[true, true, true, true, true, true, true, true, false, false] #[true, true, true, true, true, true, true, false, true, false] rfl rfl rfl rfl (by kernel_rfl) (by decide) (by decide) (fun K hK => ?_) (fun K hK => ?_)
                  · skip
                    have HLs := Aside0.mk hHeld.size
                    refine goes_ Try.func6 (by kernel_rfl) rfl #[.slice (some ⟨W3.heap.size, 0, none⟩) 2 2] (by rfl) rfl rfl (by simp only [List.map_toArray, List.map_cons, List.map_nil]; rfl) ?_
                    with_reducible refine (implMul (gridM la 3 3) (mulM (gridM lb 3 3) (gridM lc 3 3) 3 3 3) 3 3 3 F4.out _ _ _ H6.out).mono ?_
                    rintro e W5 ⟨cs, rfl, hM, hb5⟩
                    refine ⟨_, rfl, ?_⟩
                    obtain ⟨kq7, xq7, sq7, Aq7, nq7, cq7, rfl⟩ := shapeI _ _ _ _ (Kd.K_of_M _ hM)
                    replace H1 := Aside0.mk (tI.K_below hb5 H1.out)
                    replace H4 := Aside0.mk (Kd.C_below H4.out hb5)
                    replace H5 := Aside0.mk (tI.K_below hb5 H5.out)
                    replace H6 := Aside0.mk (Kd.C_below H6.out hb5)
                    have H7 := Aside0.mk (tI.M_mono (ok' := fun q => W4.heap.size ≤ q ∧ q < W5.heap.size) (fun q hq => ⟨hq.2.1, hq.2.2.1⟩) (tI.M_bound hM))
                    refine hK.out _ _ ((below_step hHeld hb5)) (fun hHeld => ?_)
                    clear hK K
                    refine norm_ (a' := ?_) ?_ ?_
                    rotate_left
                    · show Act.put _ (some 48) _ = _
                      simp only [Act.put, List.setIfInBounds_toArray, List.set_cons_zero, List.set_cons_succ, i64_w, i32_w]
                      rfl
                    refine one_ (i := 8) (N := some 11) #[true, true, true, true, true, true, true, true, true, false] rfl rfl (by kernel_rfl) (by decide) (fun K hK => ?_)
                    refine value_ (w1 := ?_) (v := ?_) (by rfl) rfl ?_ ?_
                    rotate_left 2
                    · go_simp
                      constructor
                      · rfl
                      · rfl
                    obtain ⟨W6, hW6⟩ : ∃ W', Aside0 (W' = W5.alloc (Obj.cells #[.int .i64 0, .float .f64 0, .string ⟨#[]⟩, .slice none 0 0] 30)) := ⟨_, ⟨rfl⟩⟩
                    rw [← hW6.out]
                    have hb6 : Below W5.heap.size W5 W6 := by rw [hW6.out]; exact (Below.refl _ _).alloc (Nat.le_refl _) _
                    replace H1 := Aside0.mk (tI.K_below hb6 H1.out)
                    replace H4 := Aside0.mk (Kd.C_below H4.out hb6)
                    replace H5 := Aside0.mk (tI.K_below hb6 H5.out)
                    replace H6 := Aside0.mk (Kd.C_below H6.out hb6)
                    replace H7 := Aside0.mk (Kd.M_below H7.out hb6)
                    have H8 := Aside0.mk (show W6.heap[W5.heap.size]? = some (.cells #[.int .i64 0, .float .f64 0, .string ⟨#[]⟩, .slice none 0 0] 30 (0, 0)) by rw [hW6.out]; exact heap_alloc_new _ _)
                    have HZ := Aside0.mk (show W5.heap.size < W6.heap.size by rw [hW6.out]; simp)
                    have HG := Aside0.mk hHeld.size
                    have HQ := Aside0.mk (show ∀ q, W4.heap.size ≤ q ∧ q < W5.heap.size → q ≠ W5.heap.size from fun q hq => by omega)
                    refine hK.out _ _ ((below_step hHeld hb6)) (fun hHeld => ?_)
                    clear hK K
                    refine norm_ (a' := ?_) ?_ ?_
                    rotate_left
                    · show Act.put _ (some 11) _ = _
                      simp only [Act.put, List.setIfInBounds_toArray, List.set_cons_zero, List.set_cons_succ, i64_w, i32_w]
                      rfl
                    exact norm_ (by simp only [putAll, Act.put, List.setIfInBounds_toArray, List.set_cons_zero, List.set_cons_succ]) (hCont (W5.heap.size, .agg #[.int .i64 kq1, .float .f64 xq1, .string sq1, .slice Aq1 nq1 cq1], .slice (some ⟨W1.heap.size, 0, none⟩) 2 2, .agg #[.int .i64 kq5, .float .f64 xq5, .string sq5, .slice Aq5 nq5 cq5], .slice (some ⟨W3.heap.size, 0, none⟩) 2 2, .agg #[.int .i64 kq7, .float .f64 xq7, .string sq7, .slice Aq7 nq7 cq7]) _ ⟨hHeld, HG.out, H8.out, _, rfl, tI.M_mono HQ.out (Kd.M_lower tI HLs.out H7.out)⟩)
                  · skip
                    refine value_ (w1 := ?_) (v := ?_) (by rfl) rfl ?_ ?_
                    rotate_left 2
                    · go_simp
                      constructor
                      · rfl
                      · rfl
                    obtain ⟨W5, hW5⟩ : ∃ W', Aside0 (W' = W4.alloc (Obj.cells #[.int .i64 0, .float .f64 0, .string ⟨#[]⟩, .slice none 0 0] 30)) := ⟨_, ⟨rfl⟩⟩
                    rw [← hW5.out]
                    have hb5 : Below W4.heap.size W4 W5 := by rw [hW5.out]; exact (Below.refl _ _).alloc (Nat.le_refl _) _
                    replace H1 := Aside0.mk (tI.K_below hb5 H1.out)
                    replace H4 := Aside0.mk (Kd.C_below H4.out hb5)
                    replace H5 := Aside0.mk (tI.K_below hb5 H5.out)
                    replace H6 := Aside0.mk (Kd.C_below H6.out hb5)
                    have H8 := Aside0.mk (show W5.heap[W4.heap.size]? = some (.cells #[.int .i64 0, .float .f64 0, .string ⟨#[]⟩, .slice none 0 0] 30 (0, 0)) by rw [hW5.out]; exact heap_alloc_new _ _)
                    have HZ := Aside0.mk (show W4.heap.size < W5.heap.size by rw [hW5.out]; simp)
                    have HG := Aside0.mk hHeld.size
                    refine hK.out _ _ ((below_step hHeld hb5)) (fun hHeld => ?_)
                    clear hK K
                    refine norm_ (a' := ?_) ?_ ?_
                    rotate_left
                    · show Act.put _ (some 11) _ = _
                      simp only [Act.put, List.setIfInBounds_toArray, List.set_cons_zero, List.set_cons_succ, i64_w, i32_w]
                      rfl
                    refine one_ (i := 7) (N := some 48) #[true, true, true, true, true, true, true, true, true, false] rfl rfl (by kernel_rfl) (by decide) (fun K hK => ?_)
                    have HLs := Aside0.mk hHeld.size
                    refine goes_ Try.func6 (by kernel_rfl) rfl #[.slice (some ⟨W3.heap.size, 0, none⟩) 2 2] (by rfl) rfl rfl (by simp only [List.map_toArray, List.map_cons, List.map_nil]; rfl) ?_
                    with_reducible refine (implMul (gridM la 3 3) (mulM (gridM lb 3 3) (gridM lc 3 3) 3 3 3) 3 3 3 F4.out _ _ _ H6.out).mono ?_
                    rintro e W6 ⟨cs, rfl, hM, hb6⟩
                    refine ⟨_, rfl, ?_⟩
                    obtain ⟨kq7, xq7, sq7, Aq7, nq7, cq7, rfl⟩ := shapeI _ _ _ _ (Kd.K_of_M _ hM)
                    replace H1 := Aside0.mk (tI.K_below hb6 H1.out)
                    replace H4 := Aside0.mk (Kd.C_below H4.out hb6)
                    replace H5 := Aside0.mk (tI.K_below hb6 H5.out)
                    replace H6 := Aside0.mk (Kd.C_below H6.out hb6)
                    replace H8 := Aside0.mk (blk_below H8.out hb6)
                    have hZ0 := HZ.out
                    replace HZ := Aside0.mk (Nat.lt_of_lt_of_le HZ.out hb6.size)
                    have H7 := Aside0.mk (tI.M_mono (ok' := fun q => W5.heap.size ≤ q ∧ q < W6.heap.size) (fun q hq => ⟨hq.2.1, hq.2.2.1⟩) (tI.M_bound hM))
                    have HQ := Aside0.mk (show ∀ q, W5.heap.size ≤ q ∧ q < W6.heap.size → q ≠ W4.heap.size from fun q hq => by have := hZ0; omega)
                    refine hK.out _ _ ((below_step hHeld hb6)) (fun hHeld => ?_)
                    clear hK K
                    refine norm_ (a' := ?_) ?_ ?_
                    rotate_left
                    · show Act.put _ (some 48) _ = _
                      simp only [Act.put, List.setIfInBounds_toArray, List.set_cons_zero, List.set_cons_succ, i64_w, i32_w]
                      rfl
                    exact norm_ (by simp only [putAll, Act.put, List.setIfInBounds_toArray, List.set_cons_zero, List.set_cons_succ]) (hCont (W4.heap.size, .agg #[.int .i64 kq1, .float .f64 xq1, .string sq1, .slice Aq1 nq1 cq1], .slice (some ⟨W1.heap.size, 0, none⟩) 2 2, .agg #[.int .i64 kq5, .float .f64 xq5, .string sq5, .slice Aq5 nq5 cq5], .slice (some ⟨W3.heap.size, 0, none⟩) 2 2, .agg #[.int .i64 kq7, .float .f64 xq7, .string sq7, .slice Aq7 nq7 cq7]) _ ⟨hHeld, HG.out, H8.out, _, rfl, tI.M_mono HQ.out (Kd.M_lower tI HLs.out H7.out)⟩)
                · skip
                  refine value_ (w1 := ?_) (v := ?_) (by rfl) rfl ?_ ?_
                  rotate_left 2
                  · go_simp
                    constructor
                    · rfl
                    · rfl
                  obtain ⟨W4, hW4⟩ : ∃ W', Aside0 (W' = W3.alloc (Obj.cells #[.int .i64 0, .float .f64 0, .string ⟨#[]⟩, .slice none 0 0] 30)) := ⟨_, ⟨rfl⟩⟩
                  rw [← hW4.out]
                  have hb4 : Below W3.heap.size W3 W4 := by rw [hW4.out]; exact (Below.refl _ _).alloc (Nat.le_refl _) _
                  replace H1 := Aside0.mk (tI.K_below hb4 H1.out)
                  replace H4 := Aside0.mk (Kd.C_below H4.out hb4)
                  replace H5 := Aside0.mk (tI.K_below hb4 H5.out)
                  have H8 := Aside0.mk (show W4.heap[W3.heap.size]? = some (.cells #[.int .i64 0, .float .f64 0, .string ⟨#[]⟩, .slice none 0 0] 30 (0, 0)) by rw [hW4.out]; exact heap_alloc_new _ _)
                  have HZ := Aside0.mk (show W3.heap.size < W4.heap.size by rw [hW4.out]; simp)
                  have HG := Aside0.mk hHeld.size
                  refine hK.out _ _ ((below_step hHeld hb4)) (fun hHeld => ?_)
                  clear hK K
                  refine norm_ (a' := ?_) ?_ ?_
                  rotate_left
                  · show Act.put _ (some 11) _ = _
                    simp only [Act.put, List.setIfInBounds_toArray, List.set_cons_zero, List.set_cons_succ, i64_w, i32_w]
                    rfl
                  refine one_ (i := 6) (N := some 47) #[true, true, true, true, true, true, true, false, true, false] rfl rfl (by kernel_rfl) (by decide) (fun K hK => ?_)
                  refine value_ (w1 := ?_) (v := ?_) (by rfl) rfl ?_ ?_
                  rotate_left 2
                  · go_simp
                    constructor
                    · rfl
                    · rfl
                  obtain ⟨W5, hW5⟩ : ∃ W', Aside0 (W' = W4.alloc (Obj.cells #[.int .i64 kq1, .float .f64 xq1, .string sq1, .slice Aq1 nq1 cq1, .int .i64 kq5, .float .f64 xq5, .string sq5, .slice Aq5 nq5 cq5] 30)) := ⟨_, ⟨rfl⟩⟩
                  rw [← hW5.out]
                  have hb5 : Below W4.heap.size W4 W5 := by rw [hW5.out]; exact (Below.refl _ _).alloc (Nat.le_refl _) _
                  replace H1 := Aside0.mk (tI.K_below hb5 H1.out)
                  replace H4 := Aside0.mk (Kd.C_below H4.out hb5)
                  replace H5 := Aside0.mk (tI.K_below hb5 H5.out)
                  replace H8 := Aside0.mk (blk_below H8.out hb5)
                  replace HZ := Aside0.mk (Nat.lt_of_lt_of_le HZ.out hb5.size)
                  have H6 := Aside0.mk (C_two tI (show W5.heap[W4.heap.size]? = some (.cells (([.int .i64 kq1, .float .f64 xq1, .string sq1, .slice Aq1 nq1 cq1] : List Value) ++ ([.int .i64 kq5, .float .f64 xq5, .string sq5, .slice Aq5 nq5 cq5] : List Value)).toArray 30 (0, 0)) by rw [hW5.out]; exact heap_alloc_new _ _) H1.out H5.out)
                  refine hK.out _ _ ((below_step hHeld hb5)) (fun hHeld => ?_)
                  clear hK K
                  refine norm_ (a' := ?_) ?_ ?_
                  rotate_left
                  · show Act.put _ (some 47) _ = _
                    simp only [Act.put, List.setIfInBounds_toArray, List.set_cons_zero, List.set_cons_succ, i64_w, i32_w]
                    rfl
                  refine one_ (i := 7) (N := some 48) #[true, true, true, true, true, true, true, true, true, false] rfl rfl (by kernel_rfl) (by decide) (fun K hK => ?_)
                  have HLs := Aside0.mk hHeld.size
                  refine goes_ Try.func6 (by kernel_rfl) rfl #[.slice (some ⟨W4.heap.size, 0, none⟩) 2 2] (by rfl) rfl rfl (by simp only [List.map_toArray, List.map_cons, List.map_nil]; rfl) ?_
                  with_reducible refine (implMul (gridM la 3 3) (mulM (gridM lb 3 3) (gridM lc 3 3) 3 3 3) 3 3 3 F4.out _ _ _ H6.out).mono ?_
                  rintro e W6 ⟨cs, rfl, hM, hb6⟩
                  refine ⟨_, rfl, ?_⟩
                  obtain ⟨kq7, xq7, sq7, Aq7, nq7, cq7, rfl⟩ := shapeI _ _ _ _ (Kd.K_of_M _ hM)
                  replace H1 := Aside0.mk (tI.K_below hb6 H1.out)
                  replace H4 := Aside0.mk (Kd.C_below H4.out hb6)
                  replace H5 := Aside0.mk (tI.K_below hb6 H5.out)
                  replace H8 := Aside0.mk (blk_below H8.out hb6)
                  have hZ0 := HZ.out
                  replace HZ := Aside0.mk (Nat.lt_of_lt_of_le HZ.out hb6.size)
                  replace H6 := Aside0.mk (Kd.C_below H6.out hb6)
                  have H7 := Aside0.mk (tI.M_mono (ok' := fun q => W5.heap.size ≤ q ∧ q < W6.heap.size) (fun q hq => ⟨hq.2.1, hq.2.2.1⟩) (tI.M_bound hM))
                  have HQ := Aside0.mk (show ∀ q, W5.heap.size ≤ q ∧ q < W6.heap.size → q ≠ W3.heap.size from fun q hq => by have := hZ0; omega)
                  refine hK.out _ _ ((below_step hHeld hb6)) (fun hHeld => ?_)
                  clear hK K
                  refine norm_ (a' := ?_) ?_ ?_
                  rotate_left
                  · show Act.put _ (some 48) _ = _
                    simp only [Act.put, List.setIfInBounds_toArray, List.set_cons_zero, List.set_cons_succ, i64_w, i32_w]
                    rfl
                  exact norm_ (by simp only [putAll, Act.put, List.setIfInBounds_toArray, List.set_cons_zero, List.set_cons_succ]) (hCont (W3.heap.size, .agg #[.int .i64 kq1, .float .f64 xq1, .string sq1, .slice Aq1 nq1 cq1], .slice (some ⟨W1.heap.size, 0, none⟩) 2 2, .agg #[.int .i64 kq5, .float .f64 xq5, .string sq5, .slice Aq5 nq5 cq5], .slice (some ⟨W4.heap.size, 0, none⟩) 2 2, .agg #[.int .i64 kq7, .float .f64 xq7, .string sq7, .slice Aq7 nq7 cq7]) _ ⟨hHeld, HG.out, H8.out, _, rfl, tI.M_mono HQ.out (Kd.M_lower tI HLs.out H7.out)⟩)
              · skip
                refine value_ (w1 := ?_) (v := ?_) (by rfl) rfl ?_ ?_
                rotate_left 2
                · go_simp
                  constructor
                  · rfl
                  · rfl
                obtain ⟨W3, hW3⟩ : ∃ W', Aside0 (W' = W2.alloc (Obj.cells #[.int .i64 0, .float .f64 0, .string ⟨#[]⟩, .slice none 0 0] 30)) := ⟨_, ⟨rfl⟩⟩
                rw [← hW3.out]
                have hb3 : Below W2.heap.size W2 W3 := by rw [hW3.out]; exact (Below.refl _ _).alloc (Nat.le_refl _) _
                replace H1 := Aside0.mk (tI.K_below hb3 H1.out)
                replace H4 := Aside0.mk (Kd.C_below H4.out hb3)
                have H8 := Aside0.mk (show W3.heap[W2.heap.size]? = some (.cells #[.int .i64 0, .float .f64 0, .string ⟨#[]⟩, .slice none 0 0] 30 (0, 0)) by rw [hW3.out]; exact heap_alloc_new _ _)
                have HZ := Aside0.mk (show W2.heap.size < W3.heap.size by rw [hW3.out]; simp)
                have HG := Aside0.mk hHeld.size
                refine hK.out _ _ ((below_step hHeld hb3)) (fun hHeld => ?_)
                clear hK K
                refine norm_ (a' := ?_) ?_ ?_
                rotate_left
                · show Act.put _ (some 11) _ = _
                  simp only [Act.put, List.setIfInBounds_toArray, List.set_cons_zero, List.set_cons_succ, i64_w, i32_w]
                  rfl
                refine one_ (i := 5) (N := some 46) #[true, true, true, true, true, true, false, false, true, false] rfl rfl (by kernel_rfl) (by decide) (fun K hK => ?_)
                refine goes_ Try.func7 (by kernel_rfl) rfl #[.func (.func 6) #[] #[], .slice (some ⟨W1.heap.size, 0, none⟩) 2 2] (by rfl) rfl rfl (by simp only [List.map_toArray, List.map_cons, List.map_nil]; rfl) ?_
                with_reducible refine (askMul (gridM lb 3 3) (gridM lc 3 3) 3 3 3 F2.out _ _ _ H4.out).mono ?_
                rintro e W4 ⟨cs, rfl, hM, hb4⟩
                refine ⟨_, rfl, ?_⟩
                obtain ⟨kq5, xq5, sq5, Aq5, nq5, cq5, rfl⟩ := shapeI _ _ _ _ (Kd.K_of_M _ hM)
                replace H1 := Aside0.mk (tI.K_below hb4 H1.out)
                replace H4 := Aside0.mk (Kd.C_below H4.out hb4)
                replace H8 := Aside0.mk (blk_below H8.out hb4)
                replace HZ := Aside0.mk (Nat.lt_of_lt_of_le HZ.out hb4.size)
                have H5 := Aside0.mk (Kd.K_of_M _ hM)
                refine hK.out _ _ ((below_step hHeld hb4)) (fun hHeld => ?_)
                clear hK K
                refine norm_ (a' := ?_) ?_ ?_
                rotate_left
                · show Act.put _ (some 46) _ = _
                  simp only [Act.put, List.setIfInBounds_toArray, List.set_cons_zero, List.set_cons_succ, i64_w, i32_w]
                  rfl
                refine one_ (i := 6) (N := some 47) #[true, true, true, true, true, true, true, false, true, false] rfl rfl (by kernel_rfl) (by decide) (fun K hK => ?_)
                refine value_ (w1 := ?_) (v := ?_) (by rfl) rfl ?_ ?_
                rotate_left 2
                · go_simp
                  constructor
                  · rfl
                  · rfl
                obtain ⟨W5, hW5⟩ : ∃ W', Aside0 (W' = W4.alloc (Obj.cells #[.int .i64 kq1, .float .f64 xq1, .string sq1, .slice Aq1 nq1 cq1, .int .i64 kq5, .float .f64 xq5, .string sq5, .slice Aq5 nq5 cq5] 30)) := ⟨_, ⟨rfl⟩⟩
                rw [← hW5.out]
                have hb5 : Below W4.heap.size W4 W5 := by rw [hW5.out]; exact (Below.refl _ _).alloc (Nat.le_refl _) _
                replace H1 := Aside0.mk (tI.K_below hb5 H1.out)
                replace H4 := Aside0.mk (Kd.C_below H4.out hb5)
                replace H8 := Aside0.mk (blk_below H8.out hb5)
                replace HZ := Aside0.mk (Nat.lt_of_lt_of_le HZ.out hb5.size)
                replace H5 := Aside0.mk (tI.K_below hb5 H5.out)
                have H6 := Aside0.mk (C_two tI (show W5.heap[W4.heap.size]? = some (.cells (([.int .i64 kq1, .float .f64 xq1, .string sq1, .slice Aq1 nq1 cq1] : List Value) ++ ([.int .i64 kq5, .float .f64 xq5, .string sq5, .slice Aq5 nq5 cq5] : List Value)).toArray 30 (0, 0)) by rw [hW5.out]; exact heap_alloc_new _ _) H1.out H5.out)
                refine hK.out _ _ ((below_step hHeld hb5)) (fun hHeld => ?_)
                clear hK K
                refine norm_ (a' := ?_) ?_ ?_
                rotate_left
                · show Act.put _ (some 47) _ = _
                  simp only [Act.put, List.setIfInBounds_toArray, List.set_cons_zero, List.set_cons_succ, i64_w, i32_w]
                  rfl
                refine one_ (i := 7) (N := some 48) #[true, true, true, true, true, true, true, true, true, false] rfl rfl (by kernel_rfl) (by decide) (fun K hK => ?_)
                have HLs := Aside0.mk hHeld.size
                refine goes_ Try.func6 (by kernel_rfl) rfl #[.slice (some ⟨W4.heap.size, 0, none⟩) 2 2] (by rfl) rfl rfl (by simp only [List.map_toArray, List.map_cons, List.map_nil]; rfl) ?_
                with_reducible refine (implMul (gridM la 3 3) (mulM (gridM lb 3 3) (gridM lc 3 3) 3 3 3) 3 3 3 F4.out _ _ _ H6.out).mono ?_
                rintro e W6 ⟨cs, rfl, hM, hb6⟩
                refine ⟨_, rfl, ?_⟩
                obtain ⟨kq7, xq7, sq7, Aq7, nq7, cq7, rfl⟩ := shapeI _ _ _ _ (Kd.K_of_M _ hM)
                replace H1 := Aside0.mk (tI.K_below hb6 H1.out)
                replace H4 := Aside0.mk (Kd.C_below H4.out hb6)
                replace H8 := Aside0.mk (blk_below H8.out hb6)
                have hZ0 := HZ.out
                replace HZ := Aside0.mk (Nat.lt_of_lt_of_le HZ.out hb6.size)
                replace H5 := Aside0.mk (tI.K_below hb6 H5.out)
                replace H6 := Aside0.mk (Kd.C_below H6.out hb6)
                have H7 := Aside0.mk (tI.M_mono (ok' := fun q => W5.heap.size ≤ q ∧ q < W6.heap.size) (fun q hq => ⟨hq.2.1, hq.2.2.1⟩) (tI.M_bound hM))
                have HQ := Aside0.mk (show ∀ q, W5.heap.size ≤ q ∧ q < W6.heap.size → q ≠ W2.heap.size from fun q hq => by have := hZ0; omega)
                refine hK.out _ _ ((below_step hHeld hb6)) (fun hHeld => ?_)
                clear hK K
                refine norm_ (a' := ?_) ?_ ?_
                rotate_left
                · show Act.put _ (some 48) _ = _
                  simp only [Act.put, List.setIfInBounds_toArray, List.set_cons_zero, List.set_cons_succ, i64_w, i32_w]
                  rfl
                exact norm_ (by simp only [putAll, Act.put, List.setIfInBounds_toArray, List.set_cons_zero, List.set_cons_succ]) (hCont (W2.heap.size, .agg #[.int .i64 kq1, .float .f64 xq1, .string sq1, .slice Aq1 nq1 cq1], .slice (some ⟨W1.heap.size, 0, none⟩) 2 2, .agg #[.int .i64 kq5, .float .f64 xq5, .string sq5, .slice Aq5 nq5 cq5], .slice (some ⟨W4.heap.size, 0, none⟩) 2 2, .agg #[.int .i64 kq7, .float .f64 xq7, .string sq7, .slice Aq7 nq7 cq7]) _ ⟨hHeld, HG.out, H8.out, _, rfl, tI.M_mono HQ.out (Kd.M_lower tI HLs.out H7.out)⟩)
            · skip
              refine value_ (w1 := ?_) (v := ?_) (by rfl) rfl ?_ ?_
              rotate_left 2
              · go_simp
                constructor
                · rfl
                · rfl
              obtain ⟨W2, hW2⟩ : ∃ W', Aside0 (W' = W1.alloc (Obj.cells #[.int .i64 0, .float .f64 0, .string ⟨#[]⟩, .slice none 0 0] 30)) := ⟨_, ⟨rfl⟩⟩
              rw [← hW2.out]
              have hb2 : Below W1.heap.size W1 W2 := by rw [hW2.out]; exact (Below.refl _ _).alloc (Nat.le_refl _) _
              replace H1 := Aside0.mk (tI.K_below hb2 H1.out)
              have H8 := Aside0.mk (show W2.heap[W1.heap.size]? = some (.cells #[.int .i64 0, .float .f64 0, .string ⟨#[]⟩, .slice none 0 0] 30 (0, 0)) by rw [hW2.out]; exact heap_alloc_new _ _)
              have HZ := Aside0.mk (show W1.heap.size < W2.heap.size by rw [hW2.out]; simp)
              have HG := Aside0.mk hHeld.size
              refine hK.out _ _ ((below_step hHeld hb2)) (fun hHeld => ?_)
              clear hK K
              refine norm_ (a' := ?_) ?_ ?_
              rotate_left
              · show Act.put _ (some 11) _ = _
                simp only [Act.put, List.setIfInBounds_toArray, List.set_cons_zero, List.set_cons_succ, i64_w, i32_w]
                rfl
              refine one_ (i := 4) (N := some 45) #[true, true, true, true, true, false, false, false, true, false] rfl rfl (by kernel_rfl) (by decide) (fun K hK => ?_)
              refine value_ (w1 := ?_) (v := ?_) (by rfl) rfl ?_ ?_
              rotate_left 2
              · go_simp
                constructor
                · rfl
                · rfl
              obtain ⟨W3, hW3⟩ : ∃ W', Aside0 (W' = W2.alloc (Obj.cells #[.int .i64 5, .int .i64 0, .int .i64 0, .string ⟨#[]⟩, .slice B2 n2 d2, .int .i64 5, .int .i64 0, .int .i64 0, .string ⟨#[]⟩, .slice B3 n3 d3] 25)) := ⟨_, ⟨rfl⟩⟩
              rw [← hW3.out]
              have hb3 : Below W2.heap.size W2 W3 := by rw [hW3.out]; exact (Below.refl _ _).alloc (Nat.le_refl _) _
              replace H1 := Aside0.mk (tI.K_below hb3 H1.out)
              replace H8 := Aside0.mk (blk_below H8.out hb3)
              replace HZ := Aside0.mk (Nat.lt_of_lt_of_le HZ.out hb3.size)
              have H4 := Aside0.mk (C_two tS (show W3.heap[W2.heap.size]? = some (.cells (([.int .i64 5, .int .i64 0, .int .i64 0, .string ⟨#[]⟩, .slice B2 n2 d2] : List Value) ++ ([.int .i64 5, .int .i64 0, .int .i64 0, .string ⟨#[]⟩, .slice B3 n3 d3] : List Value)).toArray 25 (0, 0)) by rw [hW3.out]; exact heap_alloc_new _ _) (tS.K_below (below_step hHeld hb3) HK2.out) (tS.K_below (below_step hHeld hb3) HK3.out))
              refine hK.out _ _ ((below_step hHeld hb3)) (fun hHeld => ?_)
              clear hK K
              refine norm_ (a' := ?_) ?_ ?_
              rotate_left
              · show Act.put _ (some 45) _ = _
                simp only [Act.put, List.setIfInBounds_toArray, List.set_cons_zero, List.set_cons_succ, i64_w, i32_w]
                rfl
              refine one_ (i := 5) (N := some 46) #[true, true, true, true, true, true, false, false, true, false] rfl rfl (by kernel_rfl) (by decide) (fun K hK => ?_)
              refine goes_ Try.func7 (by kernel_rfl) rfl #[.func (.func 6) #[] #[], .slice (some ⟨W2.heap.size, 0, none⟩) 2 2] (by rfl) rfl rfl (by simp only [List.map_toArray, List.map_cons, List.map_nil]; rfl) ?_
              with_reducible refine (askMul (gridM lb 3 3) (gridM lc 3 3) 3 3 3 F2.out _ _ _ H4.out).mono ?_
              rintro e W4 ⟨cs, rfl, hM, hb4⟩
              refine ⟨_, rfl, ?_⟩
              obtain ⟨kq5, xq5, sq5, Aq5, nq5, cq5, rfl⟩ := shapeI _ _ _ _ (Kd.K_of_M _ hM)
              replace H1 := Aside0.mk (tI.K_below hb4 H1.out)
              replace H8 := Aside0.mk (blk_below H8.out hb4)
              replace HZ := Aside0.mk (Nat.lt_of_lt_of_le HZ.out hb4.size)
              replace H4 := Aside0.mk (Kd.C_below H4.out hb4)
              have H5 := Aside0.mk (Kd.K_of_M _ hM)
              refine hK.out _ _ ((below_step hHeld hb4)) (fun hHeld => ?_)
              clear hK K
              refine norm_ (a' := ?_) ?_ ?_
              rotate_left
              · show Act.put _ (some 46) _ = _
                simp only [Act.put, List.setIfInBounds_toArray, List.set_cons_zero, List.set_cons_succ, i64_w, i32_w]
                rfl
              refine one_ (i := 6) (N := some 47) #[true, true, true, true, true, true, true, false, true, false] rfl rfl (by kernel_rfl) (by decide) (fun K hK => ?_)
              refine value_ (w1 := ?_) (v := ?_) (by rfl) rfl ?_ ?_
              rotate_left 2
              · go_simp
                constructor
                · rfl
                · rfl
              obtain ⟨W5, hW5⟩ : ∃ W', Aside0 (W' = W4.alloc (Obj.cells #[.int .i64 kq1, .float .f64 xq1, .string sq1, .slice Aq1 nq1 cq1, .int .i64 kq5, .float .f64 xq5, .string sq5, .slice Aq5 nq5 cq5] 30)) := ⟨_, ⟨rfl⟩⟩
              rw [← hW5.out]
              have hb5 : Below W4.heap.size W4 W5 := by rw [hW5.out]; exact (Below.refl _ _).alloc (Nat.le_refl _) _
              replace H1 := Aside0.mk (tI.K_below hb5 H1.out)
              replace H8 := Aside0.mk (blk_below H8.out hb5)
              replace HZ := Aside0.mk (Nat.lt_of_lt_of_le HZ.out hb5.size)
              replace H4 := Aside0.mk (Kd.C_below H4.out hb5)
              replace H5 := Aside0.mk (tI.K_below hb5 H5.out)
              have H6 := Aside0.mk (C_two tI (show W5.heap[W4.heap.size]? = some (.cells (([.int .i64 kq1, .float .f64 xq1, .string sq1, .slice Aq1 nq1 cq1] : List Value) ++ ([.int .i64 kq5, .float .f64 xq5, .string sq5, .slice Aq5 nq5 cq5] : List Value)).toArray 30 (0, 0)) by rw [hW5.out]; exact heap_alloc_new _ _) H1.out H5.out)
              refine hK.out _ _ ((below_step hHeld hb5)) (fun hHeld => ?_)
              clear hK K
              refine norm_ (a' := ?_) ?_ ?_
              rotate_left
              · show Act.put _ (some 47) _ = _
                simp only [Act.put, List.setIfInBounds_toArray, List.set_cons_zero, List.set_cons_succ, i64_w, i32_w]
                rfl
              refine one_ (i := 7) (N := some 48) #[true, true, true, true, true, true, true, true, true, false] rfl rfl (by kernel_rfl) (by decide) (fun K hK => ?_)
              have HLs := Aside0.mk hHeld.size
              refine goes_ Try.func6 (by kernel_rfl) rfl #[.slice (some ⟨W4.heap.size, 0, none⟩) 2 2] (by rfl) rfl rfl (by simp only [List.map_toArray, List.map_cons, List.map_nil]; rfl) ?_
              with_reducible refine (implMul (gridM la 3 3) (mulM (gridM lb 3 3) (gridM lc 3 3) 3 3 3) 3 3 3 F4.out _ _ _ H6.out).mono ?_
              rintro e W6 ⟨cs, rfl, hM, hb6⟩
              refine ⟨_, rfl, ?_⟩
              obtain ⟨kq7, xq7, sq7, Aq7, nq7, cq7, rfl⟩ := shapeI _ _ _ _ (Kd.K_of_M _ hM)
              replace H1 := Aside0.mk (tI.K_below hb6 H1.out)
              replace H8 := Aside0.mk (blk_below H8.out hb6)
              have hZ0 := HZ.out
              replace HZ := Aside0.mk (Nat.lt_of_lt_of_le HZ.out hb6.size)
              replace H4 := Aside0.mk (Kd.C_below H4.out hb6)
              replace H5 := Aside0.mk (tI.K_below hb6 H5.out)
              replace H6 := Aside0.mk (Kd.C_below H6.out hb6)
              have H7 := Aside0.mk (tI.M_mono (ok' := fun q => W5.heap.size ≤ q ∧ q < W6.heap.size) (fun q hq => ⟨hq.2.1, hq.2.2.1⟩) (tI.M_bound hM))
              have HQ := Aside0.mk (show ∀ q, W5.heap.size ≤ q ∧ q < W6.heap.size → q ≠ W1.heap.size from fun q hq => by have := hZ0; omega)
              refine hK.out _ _ ((below_step hHeld hb6)) (fun hHeld => ?_)
              clear hK K
              refine norm_ (a' := ?_) ?_ ?_
              rotate_left
              · show Act.put _ (some 48) _ = _
                simp only [Act.put, List.setIfInBounds_toArray, List.set_cons_zero, List.set_cons_succ, i64_w, i32_w]
                rfl
              exact norm_ (by simp only [putAll, Act.put, List.setIfInBounds_toArray, List.set_cons_zero, List.set_cons_succ]) (hCont (W1.heap.size, .agg #[.int .i64 kq1, .float .f64 xq1, .string sq1, .slice Aq1 nq1 cq1], .slice (some ⟨W2.heap.size, 0, none⟩) 2 2, .agg #[.int .i64 kq5, .float .f64 xq5, .string sq5, .slice Aq5 nq5 cq5], .slice (some ⟨W4.heap.size, 0, none⟩) 2 2, .agg #[.int .i64 kq7, .float .f64 xq7, .string sq7, .slice Aq7 nq7 cq7]) _ ⟨hHeld, HG.out, H8.out, _, rfl, tI.M_mono HQ.out (Kd.M_lower tI HLs.out H7.out)⟩)
          · skip
            refine value_ (w1 := ?_) (v := ?_) (by rfl) rfl ?_ ?_
            rotate_left 2
            · go_simp
              constructor
              · rfl
              · rfl
            obtain ⟨W1, hW1⟩ : ∃ W', Aside0 (W' = W0.alloc (Obj.cells #[.int .i64 5, .int .i64 0, .int .i64 0, .string ⟨#[]⟩, .slice B2 n2 d2, .int .i64 5, .int .i64 0, .int .i64 0, .string ⟨#[]⟩, .slice B3 n3 d3] 25)) := ⟨_, ⟨rfl⟩⟩
            rw [← hW1.out]
            have hb1 : Below W0.heap.size W0 W1 := by rw [hW1.out]; exact (Below.refl _ _).alloc (Nat.le_refl _) _
            have H4 := Aside0.mk (C_two tS (show W1.heap[W0.heap.size]? = some (.cells (([.int .i64 5, .int .i64 0, .int .i64 0, .string ⟨#[]⟩, .slice B2 n2 d2] : List Value) ++ ([.int .i64 5, .int .i64 0, .int .i64 0, .string ⟨#[]⟩, .slice B3 n3 d3] : List Value)).toArray 25 (0, 0)) by rw [hW1.out]; exact heap_alloc_new _ _) (tS.K_below (below_step hHeld hb1) HK2.out) (tS.K_below (below_step hHeld hb1) HK3.out))
            refine hK.out _ _ ((below_step hHeld hb1)) (fun hHeld => ?_)
            clear hK K
            refine norm_ (a' := ?_) ?_ ?_
            rotate_left
            · show Act.put _ (some 45) _ = _
              simp only [Act.put, List.setIfInBounds_toArray, List.set_cons_zero, List.set_cons_succ, i64_w, i32_w]
              rfl
            refine two_ (i := 1) (j := 8) (Ni := some 42) (Nj := some 11) #[true, true, true, true, true, false, false, false, false, false] #[true, false, true, true, true, false, false, false, true, false] rfl rfl rfl rfl (by kernel_rfl) (by decide) (by decide) (fun K hK => ?_) (fun K hK => ?_)
            · skip
              refine goes_ Try.func8 (by kernel_rfl) rfl #[.agg #[.int .i64 5, .int .i64 0, .int .i64 0, .string ⟨#[]⟩, .slice B1 n1 d1]] (by rfl) rfl rfl (by simp only [List.map_toArray, List.map_cons, List.map_nil]; rfl) ?_
              with_reducible refine (ofTable (gridM la 3 3) F1.out.good.1.2 _ _ (tS.K_below hHeld HK1.out)).mono ?_
              rintro e W2 ⟨cs, rfl, hM, hb2⟩
              refine ⟨_, rfl, ?_⟩
              obtain ⟨kq1, xq1, sq1, Aq1, nq1, cq1, rfl⟩ := shapeI _ _ _ _ (Kd.K_of_M _ hM)
              replace H4 := Aside0.mk (Kd.C_below H4.out hb2)
              have H1 := Aside0.mk (Kd.K_of_M _ hM)
              refine hK.out _ _ ((below_step hHeld hb2)) (fun hHeld => ?_)
              clear hK K
              refine norm_ (a' := ?_) ?_ ?_
              rotate_left
              · show Act.put _ (some 42) _ = _
                simp only [Act.put, List.setIfInBounds_toArray, List.set_cons_zero, List.set_cons_succ, i64_w, i32_w]
                rfl
              refine two_ (i := 5) (j := 8) (Ni := some 46) (Nj := some 11) #[true, true, true, true, true, true, false, false, false, false] #[true, true, true, true, true, false, false, false, true, false] rfl rfl rfl rfl (by kernel_rfl) (by decide) (by decide) (fun K hK => ?_) (fun K hK => ?_)
              · skip
                refine goes_ Try.func7 (by kernel_rfl) rfl #[.func (.func 6) #[] #[], .slice (some ⟨W0.heap.size, 0, none⟩) 2 2] (by rfl) rfl rfl (by simp only [List.map_toArray, List.map_cons, List.map_nil]; rfl) ?_
                with_reducible refine (askMul (gridM lb 3 3) (gridM lc 3 3) 3 3 3 F2.out _ _ _ H4.out).mono ?_
                rintro e W3 ⟨cs, rfl, hM, hb3⟩
                refine ⟨_, rfl, ?_⟩
                obtain ⟨kq5, xq5, sq5, Aq5, nq5, cq5, rfl⟩ := shapeI _ _ _ _ (Kd.K_of_M _ hM)
                replace H4 := Aside0.mk (Kd.C_below H4.out hb3)
                replace H1 := Aside0.mk (tI.K_below hb3 H1.out)
                have H5 := Aside0.mk (Kd.K_of_M _ hM)
                refine hK.out _ _ ((below_step hHeld hb3)) (fun hHeld => ?_)
                clear hK K
                refine norm_ (a' := ?_) ?_ ?_
                rotate_left
                · show Act.put _ (some 46) _ = _
                  simp only [Act.put, List.setIfInBounds_toArray, List.set_cons_zero, List.set_cons_succ, i64_w, i32_w]
                  rfl
                refine two_ (i := 6) (j := 8) (Ni := some 47) (Nj := some 11) #[true, true, true, true, true, true, true, false, false, false] #[true, true, true, true, true, true, false, false, true, false] rfl rfl rfl rfl (by kernel_rfl) (by decide) (by decide) (fun K hK => ?_) (fun K hK => ?_)
                · skip
                  refine value_ (w1 := ?_) (v := ?_) (by rfl) rfl ?_ ?_
                  rotate_left 2
                  · go_simp
                    constructor
                    · rfl
                    · rfl
                  obtain ⟨W4, hW4⟩ : ∃ W', Aside0 (W' = W3.alloc (Obj.cells #[.int .i64 kq1, .float .f64 xq1, .string sq1, .slice Aq1 nq1 cq1, .int .i64 kq5, .float .f64 xq5, .string sq5, .slice Aq5 nq5 cq5] 30)) := ⟨_, ⟨rfl⟩⟩
                  rw [← hW4.out]
                  have hb4 : Below W3.heap.size W3 W4 := by rw [hW4.out]; exact (Below.refl _ _).alloc (Nat.le_refl _) _
                  replace H4 := Aside0.mk (Kd.C_below H4.out hb4)
                  replace H1 := Aside0.mk (tI.K_below hb4 H1.out)
                  replace H5 := Aside0.mk (tI.K_below hb4 H5.out)
                  have H6 := Aside0.mk (C_two tI (show W4.heap[W3.heap.size]? = some (.cells (([.int .i64 kq1, .float .f64 xq1, .string sq1, .slice Aq1 nq1 cq1] : List Value) ++ ([.int .i64 kq5, .float .f64 xq5, .string sq5, .slice Aq5 nq5 cq5] : List Value)).toArray 30 (0, 0)) by rw [hW4.out]; exact heap_alloc_new _ _) H1.out H5.out)
                  refine hK.out _ _ ((below_step hHeld hb4)) (fun hHeld => ?_)
                  clear hK K
                  refine norm_ (a' := ?_) ?_ ?_
                  rotate_left
                  · show Act.put _ (some 47) _ = _
                    simp only [Act.put, List.setIfInBounds_toArray, List.set_cons_zero, List.set_cons_succ, i64_w, i32_w]
                    rfl
                  refine two_ (i := 7) (j := 8) (Ni := some 48) (Nj := some 11) #[true, true, true, true, true, true, true, true, false, false] #[true, true, true, true, true, true, true, false, true, false] rfl rfl rfl rfl (by kernel_rfl) (by decide) (by decide) (fun K hK => ?_) (fun K hK => ?_)
                  · skip
                    have HLs := Aside0.mk hHeld.size
                    refine goes_ Try.func6 (by kernel_rfl) rfl #[.slice (some ⟨W3.heap.size, 0, none⟩) 2 2] (by rfl) rfl rfl (by simp only [List.map_toArray, List.map_cons, List.map_nil]; rfl) ?_
                    with_reducible refine (implMul (gridM la 3 3) (mulM (gridM lb 3 3) (gridM lc 3 3) 3 3 3) 3 3 3 F4.out _ _ _ H6.out).mono ?_
                    rintro e W5 ⟨cs, rfl, hM, hb5⟩
                    refine ⟨_, rfl, ?_⟩
                    obtain ⟨kq7, xq7, sq7, Aq7, nq7, cq7, rfl⟩ := shapeI _ _ _ _ (Kd.K_of_M _ hM)
                    replace H4 := Aside0.mk (Kd.C_below H4.out hb5)
                    replace H1 := Aside0.mk (tI.K_below hb5 H1.out)
                    replace H5 := Aside0.mk (tI.K_below hb5 H5.out)
                    replace H6 := Aside0.mk (Kd.C_below H6.out hb5)
                    have H7 := Aside0.mk (tI.M_mono (ok' := fun q => W4.heap.size ≤ q ∧ q < W5.heap.size) (fun q hq => ⟨hq.2.1, hq.2.2.1⟩) (tI.M_bound hM))
                    refine hK.out _ _ ((below_step hHeld hb5)) (fun hHeld => ?_)
                    clear hK K
                    refine norm_ (a' := ?_) ?_ ?_
                    rotate_left
                    · show Act.put _ (some 48) _ = _
                      simp only [Act.put, List.setIfInBounds_toArray, List.set_cons_zero, List.set_cons_succ, i64_w, i32_w]
                      rfl
                    refine one_ (i := 8) (N := some 11) #[true, true, true, true, true, true, true, true, true, false] rfl rfl (by kernel_rfl) (by decide) (fun K hK => ?_)
                    refine value_ (w1 := ?_) (v := ?_) (by rfl) rfl ?_ ?_
                    rotate_left 2
                    · go_simp
                      constructor
                      · rfl
                      · rfl
                    obtain ⟨W6, hW6⟩ : ∃ W', Aside0 (W' = W5.alloc (Obj.cells #[.int .i64 0, .float .f64 0, .string ⟨#[]⟩, .slice none 0 0] 30)) := ⟨_, ⟨rfl⟩⟩
                    rw [← hW6.out]
                    have hb6 : Below W5.heap.size W5 W6 := by rw [hW6.out]; exact (Below.refl _ _).alloc (Nat.le_refl _) _
                    replace H4 := Aside0.mk (Kd.C_below H4.out hb6)
                    replace H1 := Aside0.mk (tI.K_below hb6 H1.out)
                    replace H5 := Aside0.mk (tI.K_below hb6 H5.out)
                    replace H6 := Aside0.mk (Kd.C_below H6.out hb6)
                    replace H7 := Aside0.mk (Kd.M_below H7.out hb6)
                    have H8 := Aside0.mk (show W6.heap[W5.heap.size]? = some (.cells #[.int .i64 0, .float .f64 0, .string ⟨#[]⟩, .slice none 0 0] 30 (0, 0)) by rw [hW6.out]; exact heap_alloc_new _ _)
                    have HZ := Aside0.mk (show W5.heap.size < W6.heap.size by rw [hW6.out]; simp)
                    have HG := Aside0.mk hHeld.size
                    have HQ := Aside0.mk (show ∀ q, W4.heap.size ≤ q ∧ q < W5.heap.size → q ≠ W5.heap.size from fun q hq => by omega)
                    refine hK.out _ _ ((below_step hHeld hb6)) (fun hHeld => ?_)
                    clear hK K
                    refine norm_ (a' := ?_) ?_ ?_
                    rotate_left
                    · show Act.put _ (some 11) _ = _
                      simp only [Act.put, List.setIfInBounds_toArray, List.set_cons_zero, List.set_cons_succ, i64_w, i32_w]
                      rfl
                    exact norm_ (by simp only [putAll, Act.put, List.setIfInBounds_toArray, List.set_cons_zero, List.set_cons_succ]) (hCont (W5.heap.size, .agg #[.int .i64 kq1, .float .f64 xq1, .string sq1, .slice Aq1 nq1 cq1], .slice (some ⟨W0.heap.size, 0, none⟩) 2 2, .agg #[.int .i64 kq5, .float .f64 xq5, .string sq5, .slice Aq5 nq5 cq5], .slice (some ⟨W3.heap.size, 0, none⟩) 2 2, .agg #[.int .i64 kq7, .float .f64 xq7, .string sq7, .slice Aq7 nq7 cq7]) _ ⟨hHeld, HG.out, H8.out, _, rfl, tI.M_mono HQ.out (Kd.M_lower tI HLs.out H7.out)⟩)
                  · skip
                    refine value_ (w1 := ?_) (v := ?_) (by rfl) rfl ?_ ?_
                    rotate_left 2
                    · go_simp
                      constructor
                      · rfl
                      · rfl
                    obtain ⟨W5, hW5⟩ : ∃ W', Aside0 (W' = W4.alloc (Obj.cells #[.int .i64 0, .float .f64 0, .string ⟨#[]⟩, .slice none 0 0] 30)) := ⟨_, ⟨rfl⟩⟩
                    rw [← hW5.out]
                    have hb5 : Below W4.heap.size W4 W5 := by rw [hW5.out]; exact (Below.refl _ _).alloc (Nat.le_refl _) _
                    replace H4 := Aside0.mk (Kd.C_below H4.out hb5)
                    replace H1 := Aside0.mk (tI.K_below hb5 H1.out)
                    replace H5 := Aside0.mk (tI.K_below hb5 H5.out)
                    replace H6 := Aside0.mk (Kd.C_below H6.out hb5)
                    have H8 := Aside0.mk (show W5.heap[W4.heap.size]? = some (.cells #[.int .i64 0, .float .f64 0, .string ⟨#[]⟩, .slice none 0 0] 30 (0, 0)) by rw [hW5.out]; exact heap_alloc_new _ _)
                    have HZ := Aside0.mk (show W4.heap.size < W5.heap.size by rw [hW5.out]; simp)
                    have HG := Aside0.mk hHeld.size
                    refine hK.out _ _ ((below_step hHeld hb5)) (fun hHeld => ?_)
                    clear hK K
                    refine norm_ (a' := ?_) ?_ ?_
                    rotate_left
                    · show Act.put _ (some 11) _ = _
                      simp only [Act.put, List.setIfInBounds_toArray, List.set_cons_zero, List.set_cons_succ, i64_w, i32_w]
                      rfl
                    refine one_ (i := 7) (N := some 48) #[true, true, true, true, true, true, true, true, true, false] rfl rfl (by kernel_rfl) (by decide) (fun K hK => ?_)
                    have HLs := Aside0.mk hHeld.size
                    refine goes_ Try.func6 (by kernel_rfl) rfl #[.slice (some ⟨W3.heap.size, 0, none⟩) 2 2] (by rfl) rfl rfl (by simp only [List.map_toArray, List.map_cons, List.map_nil]; rfl) ?_
                    with_reducible refine (implMul (gridM la 3 3) (mulM (gridM lb 3 3) (gridM lc 3 3) 3 3 3) 3 3 3 F4.out _ _ _ H6.out).mono ?_
                    rintro e W6 ⟨cs, rfl, hM, hb6⟩
                    refine ⟨_, rfl, ?_⟩
                    obtain ⟨kq7, xq7, sq7, Aq7, nq7, cq7, rfl⟩ := shapeI _ _ _ _ (Kd.K_of_M _ hM)
                    replace H4 := Aside0.mk (Kd.C_below H4.out hb6)
                    replace H1 := Aside0.mk (tI.K_below hb6 H1.out)
                    replace H5 := Aside0.mk (tI.K_below hb6 H5.out)
                    replace H6 := Aside0.mk (Kd.C_below H6.out hb6)
                    replace H8 := Aside0.mk (blk_below H8.out hb6)
                    have hZ0 := HZ.out
                    replace HZ := Aside0.mk (Nat.lt_of_lt_of_le HZ.out hb6.size)
                    have H7 := Aside0.mk (tI.M_mono (ok' := fun q => W5.heap.size ≤ q ∧ q < W6.heap.size) (fun q hq => ⟨hq.2.1, hq.2.2.1⟩) (tI.M_bound hM))
                    have HQ := Aside0.mk (show ∀ q, W5.heap.size ≤ q ∧ q < W6.heap.size → q ≠ W4.heap.size from fun q hq => by have := hZ0; omega)
                    refine hK.out _ _ ((below_step hHeld hb6)) (fun hHeld => ?_)
                    clear hK K
                    refine norm_ (a' := ?_) ?_ ?_
                    rotate_left
                    · show Act.put _ (some 48) _ = _
                      simp only [Act.put, List.setIfInBounds_toArray, List.set_cons_zero, List.set_cons_succ, i64_w, i32_w]
                      rfl
                    exact norm_ (by simp only [putAll, Act.put, List.setIfInBounds_toArray, List.set_cons_zero, List.set_cons_succ]) (hCont (W4.heap.size, .agg #[.int .i64 kq1, .float .f64 xq1, .string sq1, .slice Aq1 nq1 cq1], .slice (some ⟨W0.heap.size, 0, none⟩) 2 2, .agg #[.int .i64 kq5, .float .f64 xq5, .string sq5, .slice Aq5 nq5 cq5], .slice (some ⟨W3.heap.size, 0, none⟩) 2 2, .agg #[.int .i64 kq7, .float .f64 xq7, .string sq7, .slice Aq7 nq7 cq7]) _ ⟨hHeld, HG.out, H8.out, _, rfl, tI.M_mono HQ.out (Kd.M_lower tI HLs.out H7.out)⟩)
                · skip
                  refine value_ (w1 := ?_) (v := ?_) (by rfl) rfl ?_ ?_
                  rotate_left 2
                  · go_simp
                    constructor
                    · rfl
                    · rfl
                  obtain ⟨W4, hW4⟩ : ∃ W', Aside0 (W' = W3.alloc (Obj.cells #[.int .i64 0, .float .f64 0, .string ⟨#[]⟩, .slice none 0 0] 30)) := ⟨_, ⟨rfl⟩⟩
                  rw [← hW4.out]
                  have hb4 : Below W3.heap.size W3 W4 := by rw [hW4.out]; exact (Below.refl _ _).alloc (Nat.le_refl _) _
                  replace H4 := Aside0.mk (Kd.C_below H4.out hb4)
                  replace H1 := Aside0.mk (tI.K_below hb4 H1.out)
                  replace H5 := Aside0.mk (tI.K_below hb4 H5.out)
                  have H8 := Aside0.mk (show W4.heap[W3.heap.size]? = some (.cells #[.int .i64 0, .float .f64 0, .string ⟨#[]⟩, .slice none 0 0] 30 (0, 0)) by rw [hW4.out]; exact heap_alloc_new _ _)
                  have HZ := Aside0.mk (show W3.heap.size < W4.heap.size by rw [hW4.out]; simp)
                  have HG := Aside0.mk hHeld.size
                  refine hK.out _ _ ((below_step hHeld hb4)) (fun hHeld => ?_)
                  clear hK K
                  refine norm_ (a' := ?_) ?_ ?_
                  rotate_left
                  · show Act.put _ (some 11) _ = _
                    simp only [Act.put, List.setIfInBounds_toArray, List.set_cons_zero, List.set_cons_succ, i64_w, i32_w]
                    rfl
                  refine one_ (i := 6) (N := some 47) #[true, true, true, true, true, true, true, false, true, false] rfl rfl (by kernel_rfl) (by decide) (fun K hK => ?_)
                  refine value_ (w1 := ?_) (v := ?_) (by rfl) rfl ?_ ?_
                  rotate_left 2
                  · go_simp
                    constructor
                    · rfl
                    · rfl
                  obtain ⟨W5, hW5⟩ : ∃ W', Aside0 (W' = W4.alloc (Obj.cells #[.int .i64 kq1, .float .f64 xq1, .string sq1, .slice Aq1 nq1 cq1, .int .i64 kq5, .float .f64 xq5, .string sq5, .slice Aq5 nq5 cq5] 30)) := ⟨_, ⟨rfl⟩⟩
                  rw [← hW5.out]
                  have hb5 : Below W4.heap.size W4 W5 := by rw [hW5.out]; exact (Below.refl _ _).alloc (Nat.le_refl _) _
                  replace H4 := Aside0.mk (Kd.C_below H4.out hb5)
                  replace H1 := Aside0.mk (tI.K_below hb5 H1.out)
                  replace H5 := Aside0.mk (tI.K_below hb5 H5.out)
                  replace H8 := Aside0.mk (blk_below H8.out hb5)
                  replace HZ := Aside0.mk (Nat.lt_of_lt_of_le HZ.out hb5.size)
                  have H6 := Aside0.mk (C_two tI (show W5.heap[W4.heap.size]? = some (.cells (([.int .i64 kq1, .float .f64 xq1, .string sq1, .slice Aq1 nq1 cq1] : List Value) ++ ([.int .i64 kq5, .float .f64 xq5, .string sq5, .slice Aq5 nq5 cq5] : List Value)).toArray 30 (0, 0)) by rw [hW5.out]; exact heap_alloc_new _ _) H1.out H5.out)
                  refine hK.out _ _ ((below_step hHeld hb5)) (fun hHeld => ?_)
                  clear hK K
                  refine norm_ (a' := ?_) ?_ ?_
                  rotate_left
                  · show Act.put _ (some 47) _ = _
                    simp only [Act.put, List.setIfInBounds_toArray, List.set_cons_zero, List.set_cons_succ, i64_w, i32_w]
                    rfl
                  refine one_ (i := 7) (N := some 48) #[true, true, true, true, true, true, true, true, true, false] rfl rfl (by kernel_rfl) (by decide) (fun K hK => ?_)
                  have HLs := Aside0.mk hHeld.size
                  refine goes_ Try.func6 (by kernel_rfl) rfl #[.slice (some ⟨W4.heap.size, 0, none⟩) 2 2] (by rfl) rfl rfl (by simp only [List.map_toArray, List.map_cons, List.map_nil]; rfl) ?_
                  with_reducible refine (implMul (gridM la 3 3) (mulM (gridM lb 3 3) (gridM lc 3 3) 3 3 3) 3 3 3 F4.out _ _ _ H6.out).mono ?_
                  rintro e W6 ⟨cs, rfl, hM, hb6⟩
                  refine ⟨_, rfl, ?_⟩
                  obtain ⟨kq7, xq7, sq7, Aq7, nq7, cq7, rfl⟩ := shapeI _ _ _ _ (Kd.K_of_M _ hM)
                  replace H4 := Aside0.mk (Kd.C_below H4.out hb6)
                  replace H1 := Aside0.mk (tI.K_below hb6 H1.out)
                  replace H5 := Aside0.mk (tI.K_below hb6 H5.out)
                  replace H8 := Aside0.mk (blk_below H8.out hb6)
                  have hZ0 := HZ.out
                  replace HZ := Aside0.mk (Nat.lt_of_lt_of_le HZ.out hb6.size)
                  replace H6 := Aside0.mk (Kd.C_below H6.out hb6)
                  have H7 := Aside0.mk (tI.M_mono (ok' := fun q => W5.heap.size ≤ q ∧ q < W6.heap.size) (fun q hq => ⟨hq.2.1, hq.2.2.1⟩) (tI.M_bound hM))
                  have HQ := Aside0.mk (show ∀ q, W5.heap.size ≤ q ∧ q < W6.heap.size → q ≠ W3.heap.size from fun q hq => by have := hZ0; omega)
                  refine hK.out _ _ ((below_step hHeld hb6)) (fun hHeld => ?_)
                  clear hK K
                  refine norm_ (a' := ?_) ?_ ?_
                  rotate_left
                  · show Act.put _ (some 48) _ = _
                    simp only [Act.put, List.setIfInBounds_toArray, List.set_cons_zero, List.set_cons_succ, i64_w, i32_w]
                    rfl
                  exact norm_ (by simp only [putAll, Act.put, List.setIfInBounds_toArray, List.set_cons_zero, List.set_cons_succ]) (hCont (W3.heap.size, .agg #[.int .i64 kq1, .float .f64 xq1, .string sq1, .slice Aq1 nq1 cq1], .slice (some ⟨W0.heap.size, 0, none⟩) 2 2, .agg #[.int .i64 kq5, .float .f64 xq5, .string sq5, .slice Aq5 nq5 cq5], .slice (some ⟨W4.heap.size, 0, none⟩) 2 2, .agg #[.int .i64 kq7, .float .f64 xq7, .string sq7, .slice Aq7 nq7 cq7]) _ ⟨hHeld, HG.out, H8.out, _, rfl, tI.M_mono HQ.out (Kd.M_lower tI HLs.out H7.out)⟩)
              · skip
                refine value_ (w1 := ?_) (v := ?_) (by rfl) rfl ?_ ?_
                rotate_left 2
                · go_simp
                  constructor
                  · rfl
                  · rfl
                obtain ⟨W3, hW3⟩ : ∃ W', Aside0 (W' = W2.alloc (Obj.cells #[.int .i64 0, .float .f64 0, .string ⟨#[]⟩, .slice none 0 0] 30)) := ⟨_, ⟨rfl⟩⟩
                rw [← hW3.out]
                have hb3 : Below W2.heap.size W2 W3 := by rw [hW3.out]; exact (Below.refl _ _).alloc (Nat.le_refl _) _
                replace H4 := Aside0.mk (Kd.C_below H4.out hb3)
                replace H1 := Aside0.mk (tI.K_below hb3 H1.out)
                have H8 := Aside0.mk (show W3.heap[W2.heap.size]? = some (.cells #[.int .i64 0, .float .f64 0, .string ⟨#[]⟩, .slice none 0 0] 30 (0, 0)) by rw [hW3.out]; exact heap_alloc_new _ _)
                have HZ := Aside0.mk (show W2.heap.size < W3.heap.size by rw [hW3.out]; simp)
                have HG := Aside0.mk hHeld.size
                refine hK.out _ _ ((below_step hHeld hb3)) (fun hHeld => ?_)
                clear hK K
                refine norm_ (a' := ?_) ?_ ?_
                rotate_left
                · show Act.put _ (some 11) _ = _
                  simp only [Act.put, List.setIfInBounds_toArray, List.set_cons_zero, List.set_cons_succ, i64_w, i32_w]
                  rfl
                refine one_ (i := 5) (N := some 46) #[true, true, true, true, true, true, false, false, true, false] rfl rfl (by kernel_rfl) (by decide) (fun K hK => ?_)
                refine goes_ Try.func7 (by kernel_rfl) rfl #[.func (.func 6) #[] #[], .slice (some ⟨W0.heap.size, 0, none⟩) 2 2] (by rfl) rfl rfl (by simp only [List.map_toArray, List.map_cons, List.map_nil]; rfl) ?_
                with_reducible refine (askMul (gridM lb 3 3) (gridM lc 3 3) 3 3 3 F2.out _ _ _ H4.out).mono ?_
                rintro e W4 ⟨cs, rfl, hM, hb4⟩
                refine ⟨_, rfl, ?_⟩
                obtain ⟨kq5, xq5, sq5, Aq5, nq5, cq5, rfl⟩ := shapeI _ _ _ _ (Kd.K_of_M _ hM)
                replace H4 := Aside0.mk (Kd.C_below H4.out hb4)
                replace H1 := Aside0.mk (tI.K_below hb4 H1.out)
                replace H8 := Aside0.mk (blk_below H8.out hb4)
                replace HZ := Aside0.mk (Nat.lt_of_lt_of_le HZ.out hb4.size)
                have H5 := Aside0.mk (Kd.K_of_M _ hM)
                refine hK.out _ _ ((below_step hHeld hb4)) (fun hHeld => ?_)
                clear hK K
                refine norm_ (a' := ?_) ?_ ?_
                rotate_left
                · show Act.put _ (some 46) _ = _
                  simp only [Act.put, List.setIfInBounds_toArray, List.set_cons_zero, List.set_cons_succ, i64_w, i32_w]
                  rfl
                refine one_ (i := 6) (N := some 47) #[true, true, true, true, true, true, true, false, true, false] rfl rfl (by kernel_rfl) (by decide) (fun K hK => ?_)
                refine value_ (w1 := ?_) (v := ?_) (by rfl) rfl ?_ ?_
                rotate_left 2
                · go_simp
                  constructor
                  · rfl
                  · rfl
                obtain ⟨W5, hW5⟩ : ∃ W', Aside0 (W' = W4.alloc (Obj.cells #[.int .i64 kq1, .float .f64 xq1, .string sq1, .slice Aq1 nq1 cq1, .int .i64 kq5, .float .f64 xq5, .string sq5, .slice Aq5 nq5 cq5] 30)) := ⟨_, ⟨rfl⟩⟩
                rw [← hW5.out]
                have hb5 : Below W4.heap.size W4 W5 := by rw [hW5.out]; exact (Below.refl _ _).alloc (Nat.le_refl _) _
                replace H4 := Aside0.mk (Kd.C_below H4.out hb5)
                replace H1 := Aside0.mk (tI.K_below hb5 H1.out)
                replace H8 := Aside0.mk (blk_below H8.out hb5)
                replace HZ := Aside0.mk (Nat.lt_of_lt_of_le HZ.out hb5.size)
                replace H5 := Aside0.mk (tI.K_below hb5 H5.out)
                have H6 := Aside0.mk (C_two tI (show W5.heap[W4.heap.size]? = some (.cells (([.int .i64 kq1, .float .f64 xq1, .string sq1, .slice Aq1 nq1 cq1] : List Value) ++ ([.int .i64 kq5, .float .f64 xq5, .string sq5, .slice Aq5 nq5 cq5] : List Value)).toArray 30 (0, 0)) by rw [hW5.out]; exact heap_alloc_new _ _) H1.out H5.out)
                refine hK.out _ _ ((below_step hHeld hb5)) (fun hHeld => ?_)
                clear hK K
                refine norm_ (a' := ?_) ?_ ?_
                rotate_left
                · show Act.put _ (some 47) _ = _
                  simp only [Act.put, List.setIfInBounds_toArray, List.set_cons_zero, List.set_cons_succ, i64_w, i32_w]
                  rfl
                refine one_ (i := 7) (N := some 48) #[true, true, true, true, true, true, true, true, true, false] rfl rfl (by kernel_rfl) (by decide) (fun K hK => ?_)
                have HLs := Aside0.mk hHeld.size
                refine goes_ Try.func6 (by kernel_rfl) rfl #[.slice (some ⟨W4.heap.size, 0, none⟩) 2 2] (by rfl) rfl rfl (by simp only [List.map_toArray, List.map_cons, List.map_nil]; rfl) ?_
                with_reducible refine (implMul (gridM la 3 3) (mulM (gridM lb 3 3) (gridM lc 3 3) 3 3 3) 3 3 3 F4.out _ _ _ H6.out).mono ?_
                rintro e W6 ⟨cs, rfl, hM, hb6⟩
                refine ⟨_, rfl, ?_⟩
                obtain ⟨kq7, xq7, sq7, Aq7, nq7, cq7, rfl⟩ := shapeI _ _ _ _ (Kd.K_of_M _ hM)
                replace H4 := Aside0.mk (Kd.C_below H4.out hb6)
                replace H1 := Aside0.mk (tI.K_below hb6 H1.out)
                replace H8 := Aside0.mk (blk_below H8.out hb6)
                have hZ0 := HZ.out
                replace HZ := Aside0.mk (Nat.lt_of_lt_of_le HZ.out hb6.size)
                replace H5 := Aside0.mk (tI.K_below hb6 H5.out)
                replace H6 := Aside0.mk (Kd.C_below H6.out hb6)
                have H7 := Aside0.mk (tI.M_mono (ok' := fun q => W5.heap.size ≤ q ∧ q < W6.heap.size) (fun q hq => ⟨hq.2.1, hq.2.2.1⟩) (tI.M_bound hM))
                have HQ := Aside0.mk (show ∀ q, W5.heap.size ≤ q ∧ q < W6.heap.size → q ≠ W2.heap.size from fun q hq => by have := hZ0; omega)
                refine hK.out _ _ ((below_step hHeld hb6)) (fun hHeld => ?_)
                clear hK K
                refine norm_ (a' := ?_) ?_ ?_
                rotate_left
                · show Act.put _ (some 48) _ = _
                  simp only [Act.put, List.setIfInBounds_toArray, List.set_cons_zero, List.set_cons_succ, i64_w, i32_w]
                  rfl
                exact norm_ (by simp only [putAll, Act.put, List.setIfInBounds_toArray, List.set_cons_zero, List.set_cons_succ]) (hCont (W2.heap.size, .agg #[.int .i64 kq1, .float .f64 xq1, .string sq1, .slice Aq1 nq1 cq1], .slice (some ⟨W0.heap.size, 0, none⟩) 2 2, .agg #[.int .i64 kq5, .float .f64 xq5, .string sq5, .slice Aq5 nq5 cq5], .slice (some ⟨W4.heap.size, 0, none⟩) 2 2, .agg #[.int .i64 kq7, .float .f64 xq7, .string sq7, .slice Aq7 nq7 cq7]) _ ⟨hHeld, HG.out, H8.out, _, rfl, tI.M_mono HQ.out (Kd.M_lower tI HLs.out H7.out)⟩)
            · skip
              refine value_ (w1 := ?_) (v := ?_) (by rfl) rfl ?_ ?_
              rotate_left 2
              · go_simp
                constructor
                · rfl
                · rfl
              obtain ⟨W2, hW2⟩ : ∃ W', Aside0 (W' = W1.alloc (Obj.cells #[.int .i64 0, .float .f64 0, .string ⟨#[]⟩, .slice none 0 0] 30)) := ⟨_, ⟨rfl⟩⟩
              rw [← hW2.out]
              have hb2 : Below W1.heap.size W1 W2 := by rw [hW2.out]; exact (Below.refl _ _).alloc (Nat.le_refl _) _
              replace H4 := Aside0.mk (Kd.C_below H4.out hb2)
              have H8 := Aside0.mk (show W2.heap[W1.heap.size]? = some (.cells #[.int .i64 0, .float .f64 0, .string ⟨#[]⟩, .slice none 0 0] 30 (0, 0)) by rw [hW2.out]; exact heap_alloc_new _ _)
              have HZ := Aside0.mk (show W1.heap.size < W2.heap.size by rw [hW2.out]; simp)
              have HG := Aside0.mk hHeld.size
              refine hK.out _ _ ((below_step hHeld hb2)) (fun hHeld => ?_)
              clear hK K
              refine norm_ (a' := ?_) ?_ ?_
              rotate_left
              · show Act.put _ (some 11) _ = _
                simp only [Act.put, List.setIfInBounds_toArray, List.set_cons_zero, List.set_cons_succ, i64_w, i32_w]
                rfl
              refine one_ (i := 1) (N := some 42) #[true, true, true, true, true, false, false, false, true, false] rfl rfl (by kernel_rfl) (by decide) (fun K hK => ?_)
              refine goes_ Try.func8 (by kernel_rfl) rfl #[.agg #[.int .i64 5, .int .i64 0, .int .i64 0, .string ⟨#[]⟩, .slice B1 n1 d1]] (by rfl) rfl rfl (by simp only [List.map_toArray, List.map_cons, List.map_nil]; rfl) ?_
              with_reducible refine (ofTable (gridM la 3 3) F1.out.good.1.2 _ _ (tS.K_below hHeld HK1.out)).mono ?_
              rintro e W3 ⟨cs, rfl, hM, hb3⟩
              refine ⟨_, rfl, ?_⟩
              obtain ⟨kq1, xq1, sq1, Aq1, nq1, cq1, rfl⟩ := shapeI _ _ _ _ (Kd.K_of_M _ hM)
              replace H4 := Aside0.mk (Kd.C_below H4.out hb3)
              replace H8 := Aside0.mk (blk_below H8.out hb3)
              replace HZ := Aside0.mk (Nat.lt_of_lt_of_le HZ.out hb3.size)
              have H1 := Aside0.mk (Kd.K_of_M _ hM)
              refine hK.out _ _ ((below_step hHeld hb3)) (fun hHeld => ?_)
              clear hK K
              refine norm_ (a' := ?_) ?_ ?_
              rotate_left
              · show Act.put _ (some 42) _ = _
                simp only [Act.put, List.setIfInBounds_toArray, List.set_cons_zero, List.set_cons_succ, i64_w, i32_w]
                rfl
              refine one_ (i := 5) (N := some 46) #[true, true, true, true, true, true, false, false, true, false] rfl rfl (by kernel_rfl) (by decide) (fun K hK => ?_)
              refine goes_ Try.func7 (by kernel_rfl) rfl #[.func (.func 6) #[] #[], .slice (some ⟨W0.heap.size, 0, none⟩) 2 2] (by rfl) rfl rfl (by simp only [List.map_toArray, List.map_cons, List.map_nil]; rfl) ?_
              with_reducible refine (askMul (gridM lb 3 3) (gridM lc 3 3) 3 3 3 F2.out _ _ _ H4.out).mono ?_
              rintro e W4 ⟨cs, rfl, hM, hb4⟩
              refine ⟨_, rfl, ?_⟩
              obtain ⟨kq5, xq5, sq5, Aq5, nq5, cq5, rfl⟩ := shapeI _ _ _ _ (Kd.K_of_M _ hM)
              replace H4 := Aside0.mk (Kd.C_below H4.out hb4)
              replace H8 := Aside0.mk (blk_below H8.out hb4)
              replace HZ := Aside0.mk (Nat.lt_of_lt_of_le HZ.out hb4.size)
              replace H1 := Aside0.mk (tI.K_below hb4 H1.out)
              have H5 := Aside0.mk (Kd.K_of_M _ hM)
              refine hK.out _ _ ((below_step hHeld hb4)) (fun hHeld => ?_)
              clear hK K
              refine norm_ (a' := ?_) ?_ ?_
              rotate_left
              · show Act.put _ (some 46) _ = _
                simp only [Act.put, List.setIfInBounds_toArray, List.set_cons_zero, List.set_cons_succ, i64_w, i32_w]
                rfl
              refine one_ (i := 6) (N := some 47) #[true, true, true, true, true, true, true, false, true, false] rfl rfl (by kernel_rfl) (by decide) (fun K hK => ?_)
              refine value_ (w1 := ?_) (v := ?_) (by rfl) rfl ?_ ?_
              rotate_left 2
              · go_simp
                constructor
                · rfl
                · rfl
              obtain ⟨W5, hW5⟩ : ∃ W', Aside0 (W' = W4.alloc (Obj.cells #[.int .i64 kq1, .float .f64 xq1, .string sq1, .slice Aq1 nq1 cq1, .int .i64 kq5, .float .f64 xq5, .string sq5, .slice Aq5 nq5 cq5] 30)) := ⟨_, ⟨rfl⟩⟩
              rw [← hW5.out]
              have hb5 : Below W4.heap.size W4 W5 := by rw [hW5.out]; exact (Below.refl _ _).alloc (Nat.le_refl _) _
              replace H4 := Aside0.mk (Kd.C_below H4.out hb5)
              replace H8 := Aside0.mk (blk_below H8.out hb5)
              replace HZ := Aside0.mk (Nat.lt_of_lt_of_le HZ.out hb5.size)
              replace H1 := Aside0.mk (tI.K_below hb5 H1.out)
              replace H5 := Aside0.mk (tI.K_below hb5 H5.out)
              have H6 := Aside0.mk (C_two tI (show W5.heap[W4.heap.size]? = some (.cells (([.int .i64 kq1, .float .f64 xq1, .string sq1, .slice Aq1 nq1 cq1] : List Value) ++ ([.int .i64 kq5, .float .f64 xq5, .string sq5, .slice Aq5 nq5 cq5] : List Value)).toArray 30 (0, 0)) by rw [hW5.out]; exact heap_alloc_new _ _) H1.out H5.out)
              refine hK.out _ _ ((below_step hHeld hb5)) (fun hHeld => ?_)
              clear hK K
              refine norm_ (a' := ?_) ?_ ?_
              rotate_left
              · show Act.put _ (some 47) _ = _
                simp only [Act.put, List.setIfInBounds_toArray, List.set_cons_zero, List.set_cons_succ, i64_w, i32_w]
                rfl
              refine one_ (i := 7) (N := some 48) #[true, true, true, true, true, true, true, true, true, false] rfl rfl (by kernel_rfl) (by decide) (fun K hK => ?_)
              have HLs := Aside0.mk hHeld.size
              refine goes_ Try.func6 (by kernel_rfl) rfl #[.slice (some ⟨W4.heap.size, 0, none⟩) 2 2] (by rfl) rfl rfl (by simp only [List.map_toArray, List.map_cons, List.map_nil]; rfl) ?_
              with_reducible refine (implMul (gridM la 3 3) (mulM (gridM lb 3 3) (gridM lc 3 3) 3 3 3) 3 3 3 F4.out _ _ _ H6.out).mono ?_
              rintro e W6 ⟨cs, rfl, hM, hb6⟩
              refine ⟨_, rfl, ?_⟩
              obtain ⟨kq7, xq7, sq7, Aq7, nq7, cq7, rfl⟩ := shapeI _ _ _ _ (Kd.K_of_M _ hM)
              replace H4 := Aside0.mk (Kd.C_below H4.out hb6)
              replace H8 := Aside0.mk (blk_below H8.out hb6)
              have hZ0 := HZ.out
              replace HZ := Aside0.mk (Nat.lt_of_lt_of_le HZ.out hb6.size)
              replace H1 := Aside0.mk (tI.K_below hb6 H1.out)
              replace H5 := Aside0.mk (tI.K_below hb6 H5.out)
              replace H6 := Aside0.mk (Kd.C_below H6.out hb6)
              have H7 := Aside0.mk (tI.M_mono (ok' := fun q => W5.heap.size ≤ q ∧ q < W6.heap.size) (fun q hq => ⟨hq.2.1, hq.2.2.1⟩) (tI.M_bound hM))
              have HQ := Aside0.mk (show ∀ q, W5.heap.size ≤ q ∧ q < W6.heap.size → q ≠ W1.heap.size from fun q hq => by have := hZ0; omega)
              refine hK.out _ _ ((below_step hHeld hb6)) (fun hHeld => ?_)
              clear hK K
              refine norm_ (a' := ?_) ?_ ?_
              rotate_left
              · show Act.put _ (some 48) _ = _
                simp only [Act.put, List.setIfInBounds_toArray, List.set_cons_zero, List.set_cons_succ, i64_w, i32_w]
                rfl
              exact norm_ (by simp only [putAll, Act.put, List.setIfInBounds_toArray, List.set_cons_zero, List.set_cons_succ]) (hCont (W1.heap.size, .agg #[.int .i64 kq1, .float .f64 xq1, .string sq1, .slice Aq1 nq1 cq1], .slice (some ⟨W0.heap.size, 0, none⟩) 2 2, .agg #[.int .i64 kq5, .float .f64 xq5, .string sq5, .slice Aq5 nq5 cq5], .slice (some ⟨W4.heap.size, 0, none⟩) 2 2, .agg #[.int .i64 kq7, .float .f64 xq7, .string sq7, .slice Aq7 nq7 cq7]) _ ⟨hHeld, HG.out, H8.out, _, rfl, tI.M_mono HQ.out (Kd.M_lower tI HLs.out H7.out)⟩)
          · skip
            refine value_ (w1 := ?_) (v := ?_) (by rfl) rfl ?_ ?_
            rotate_left 2
            · go_simp
              constructor
              · rfl
              · rfl
            obtain ⟨W1, hW1⟩ : ∃ W', Aside0 (W' = W0.alloc (Obj.cells #[.int .i64 0, .float .f64 0, .string ⟨#[]⟩, .slice none 0 0] 30)) := ⟨_, ⟨rfl⟩⟩
            rw [← hW1.out]
            have hb1 : Below W0.heap.size W0 W1 := by rw [hW1.out]; exact (Below.refl _ _).alloc (Nat.le_refl _) _
            have H8 := Aside0.mk (show W1.heap[W0.heap.size]? = some (.cells #[.int .i64 0, .float .f64 0, .string ⟨#[]⟩, .slice none 0 0] 30 (0, 0)) by rw [hW1.out]; exact heap_alloc_new _ _)
            have HZ := Aside0.mk (show W0.heap.size < W1.heap.size by rw [hW1.out]; simp)
            have HG := Aside0.mk hHeld.size
            refine hK.out _ _ ((below_step hHeld hb1)) (fun hHeld => ?_)
            clear hK K
            refine norm_ (a' := ?_) ?_ ?_
            rotate_left
            · show Act.put _ (some 11) _ = _
              simp only [Act.put, List.setIfInBounds_toArray, List.set_cons_zero, List.set_cons_succ, i64_w, i32_w]
              rfl
            refine two_ (i := 1) (j := 4) (Ni := some 42) (Nj := some 45) #[true, true, true, true, false, false, false, false, true, false] #[true, false, true, true, true, false, false, false, true, false] rfl rfl rfl rfl (by kernel_rfl) (by decide) (by decide) (fun K hK => ?_) (fun K hK => ?_)
            · skip
              refine goes_ Try.func8 (by kernel_rfl) rfl #[.agg #[.int .i64 5, .int .i64 0, .int .i64 0, .string ⟨#[]⟩, .slice B1 n1 d1]] (by rfl) rfl rfl (by simp only [List.map_toArray, List.map_cons, List.map_nil]; rfl) ?_
              with_reducible refine (ofTable (gridM la 3 3) F1.out.good.1.2 _ _ (tS.K_below hHeld HK1.out)).mono ?_
              rintro e W2 ⟨cs, rfl, hM, hb2⟩
              refine ⟨_, rfl, ?_⟩
              obtain ⟨kq1, xq1, sq1, Aq1, nq1, cq1, rfl⟩ := shapeI _ _ _ _ (Kd.K_of_M _ hM)
              replace H8 := Aside0.mk (blk_below H8.out hb2)
              replace HZ := Aside0.mk (Nat.lt_of_lt_of_le HZ.out hb2.size)
              have H1 := Aside0.mk (Kd.K_of_M _ hM)
              refine hK.out _ _ ((below_step hHeld hb2)) (fun hHeld => ?_)
              clear hK K
              refine norm_ (a' := ?_) ?_ ?_
              rotate_left
              · show Act.put _ (some 42) _ = _
                simp only [Act.put, List.setIfInBounds_toArray, List.set_cons_zero, List.set_cons_succ, i64_w, i32_w]
                rfl
              refine one_ (i := 4) (N := some 45) #[true, true, true, true, true, false, false, false, true, false] rfl rfl (by kernel_rfl) (by decide) (fun K hK => ?_)
              refine value_ (w1 := ?_) (v := ?_) (by rfl) rfl ?_ ?_
              rotate_left 2
              · go_simp
                constructor
                · rfl
                · rfl
              obtain ⟨W3, hW3⟩ : ∃ W', Aside0 (W' = W2.alloc (Obj.cells #[.int .i64 5, .int .i64 0, .int .i64 0, .string ⟨#[]⟩, .slice B2 n2 d2, .int .i64 5, .int .i64 0, .int .i64 0, .string ⟨#[]⟩, .slice B3 n3 d3] 25)) := ⟨_, ⟨rfl⟩⟩
              rw [← hW3.out]
              have hb3 : Below W2.heap.size W2 W3 := by rw [hW3.out]; exact (Below.refl _ _).alloc (Nat.le_refl _) _
              replace H8 := Aside0.mk (blk_below H8.out hb3)
              replace HZ := Aside0.mk (Nat.lt_of_lt_of_le HZ.out hb3.size)
              replace H1 := Aside0.mk (tI.K_below hb3 H1.out)
              have H4 := Aside0.mk (C_two tS (show W3.heap[W2.heap.size]? = some (.cells (([.int .i64 5, .int .i64 0, .int .i64 0, .string ⟨#[]⟩, .slice B2 n2 d2] : List Value) ++ ([.int .i64 5, .int .i64 0, .int .i64 0, .string ⟨#[]⟩, .slice B3 n3 d3] : List Value)).toArray 25 (0, 0)) by rw [hW3.out]; exact heap_alloc_new _ _) (tS.K_below (below_step hHeld hb3) HK2.out) (tS.K_below (below_step hHeld hb3) HK3.out))
              refine hK.out _ _ ((below_step hHeld hb3)) (fun hHeld => ?_)
              clear hK K
              refine norm_ (a' := ?_) ?_ ?_
              rotate_left
              · show Act.put _ (some 45) _ = _
                simp only [Act.put, List.setIfInBounds_toArray, List.set_cons_zero, List.set_cons_succ, i64_w, i32_w]
                rfl
              refine one_ (i := 5) (N := some 46) #[true, true, true, true, true, true, false, false, true, false] rfl rfl (by kernel_rfl) (by decide) (fun K hK => ?_)
              refine goes_ Try.func7 (by kernel_rfl) rfl #[.func (.func 6) #[] #[], .slice (some ⟨W2.heap.size, 0, none⟩) 2 2] (by rfl) rfl rfl (by simp only [List.map_toArray, List.map_cons, List.map_nil]; rfl) ?_
              with_reducible refine (askMul (gridM lb 3 3) (gridM lc 3 3) 3 3 3 F2.out _ _ _ H4.out).mono ?_
              rintro e W4 ⟨cs, rfl, hM, hb4⟩
              refine ⟨_, rfl, ?_⟩
              obtain ⟨kq5, xq5, sq5, Aq5, nq5, cq5, rfl⟩ := shapeI _ _ _ _ (Kd.K_of_M _ hM)
              replace H8 := Aside0.mk (blk_below H8.out hb4)
              replace HZ := Aside0.mk (Nat.lt_of_lt_of_le HZ.out hb4.size)
              replace H1 := Aside0.mk (tI.K_below hb4 H1.out)
              replace H4 := Aside0.mk (Kd.C_below H4.out hb4)
              have H5 := Aside0.mk (Kd.K_of_M _ hM)
              refine hK.out _ _ ((below_step hHeld hb4)) (fun hHeld => ?_)
              clear hK K
              refine norm_ (a' := ?_) ?_ ?_
              rotate_left
              · show Act.put _ (some 46) _ = _
                simp only [Act.put, List.setIfInBounds_toArray, List.set_cons_zero, List.set_cons_succ, i64_w, i32_w]
                rfl
              refine one_ (i := 6) (N := some 47) #[true, true, true, true, true, true, true, false, true, false] rfl rfl (by kernel_rfl) (by decide) (fun K hK => ?_)
              refine value_ (w1 := ?_) (v := ?_) (by rfl) rfl ?_ ?_
              rotate_left 2
              · go_simp
                constructor
                · rfl
                · rfl
              obtain ⟨W5, hW5⟩ : ∃ W', Aside0 (W' = W4.alloc (Obj.cells #[.int .i64 kq1, .float .f64 xq1, .string sq1, .slice Aq1 nq1 cq1, .int .i64 kq5, .float .f64 xq5, .string sq5, .slice Aq5 nq5 cq5] 30)) := ⟨_, ⟨rfl⟩⟩
              rw [← hW5.out]
              have hb5 : Below W4.heap.size W4 W5 := by rw [hW5.out]; exact (Below.refl _ _).alloc (Nat.le_refl _) _
              replace H8 := Aside0.mk (blk_below H8.out hb5)
              replace HZ := Aside0.mk (Nat.lt_of_lt_of_le HZ.out hb5.size)
              replace H1 := Aside0.mk (tI.K_below hb5 H1.out)
              replace H4 := Aside0.mk (Kd.C_below H4.out hb5)
              replace H5 := Aside0.mk (tI.K_below hb5 H5.out)
              have H6 := Aside0.mk (C_two tI (show W5.heap[W4.heap.size]? = some (.cells (([.int .i64 kq1, .float .f64 xq1, .string sq1, .slice Aq1 nq1 cq1] : List Value) ++ ([.int .i64 kq5, .float .f64 xq5, .string sq5, .slice Aq5 nq5 cq5] : List Value)).toArray 30 (0, 0)) by rw [hW5.out]; exact heap_alloc_new _ _) H1.out H5.out)
              refine hK.out _ _ ((below_step hHeld hb5)) (fun hHeld => ?_)
              clear hK K
              refine norm_ (a' := ?_) ?_ ?_
              rotate_left
              · show Act.put _ (some 47) _ = _
                simp only [Act.put, List.setIfInBounds_toArray, List.set_cons_zero, List.set_cons_succ, i64_w, i32_w]
                rfl
              refine one_ (i := 7) (N := some 48) #[true, true, true, true, true, true, true, true, true, false] rfl rfl (by kernel_rfl) (by decide) (fun K hK => ?_)
              have HLs := Aside0.mk hHeld.size
              refine goes_ Try.func6 (by kernel_rfl) rfl #[.slice (some ⟨W4.heap.size, 0, none⟩) 2 2] (by rfl) rfl rfl (by simp only [List.map_toArray, List.map_cons, List.map_nil]; rfl) ?_
              with_reducible refine (implMul (gridM la 3 3) (mulM (gridM lb 3 3) (gridM lc 3 3) 3 3 3) 3 3 3 F4.out _ _ _ H6.out).mono ?_
              rintro e W6 ⟨cs, rfl, hM, hb6⟩
              refine ⟨_, rfl, ?_⟩
              obtain ⟨kq7, xq7, sq7, Aq7, nq7, cq7, rfl⟩ := shapeI _ _ _ _ (Kd.K_of_M _ hM)
              replace H8 := Aside0.mk (blk_below H8.out hb6)
              have hZ0 := HZ.out
              replace HZ := Aside0.mk (Nat.lt_of_lt_of_le HZ.out hb6.size)
              replace H1 := Aside0.mk (tI.K_below hb6 H1.out)
              replace H4 := Aside0.mk (Kd.C_below H4.out hb6)
              replace H5 := Aside0.mk (tI.K_below hb6 H5.out)
              replace H6 := Aside0.mk (Kd.C_below H6.out hb6)
              have H7 := Aside0.mk (tI.M_mono (ok' := fun q => W5.heap.size ≤ q ∧ q < W6.heap.size) (fun q hq => ⟨hq.2.1, hq.2.2.1⟩) (tI.M_bound hM))
              have HQ := Aside0.mk (show ∀ q, W5.heap.size ≤ q ∧ q < W6.heap.size → q ≠ W0.heap.size from fun q hq => by have := hZ0; omega)
              refine hK.out _ _ ((below_step hHeld hb6)) (fun hHeld => ?_)
              clear hK K
              refine norm_ (a' := ?_) ?_ ?_
              rotate_left
              · show Act.put _ (some 48) _ = _
                simp only [Act.put, List.setIfInBounds_toArray, List.set_cons_zero, List.set_cons_succ, i64_w, i32_w]
                rfl
              exact norm_ (by simp only [putAll, Act.put, List.setIfInBounds_toArray, List.set_cons_zero, List.set_cons_succ]) (hCont (W0.heap.size, .agg #[.int .i64 kq1, .float .f64 xq1, .string sq1, .slice Aq1 nq1 cq1], .slice (some ⟨W2.heap.size, 0, none⟩) 2 2, .agg #[.int .i64 kq5, .float .f64 xq5, .string sq5, .slice Aq5 nq5 cq5], .slice (some ⟨W4.heap.size, 0, none⟩) 2 2, .agg #[.int .i64 kq7, .float .f64 xq7, .string sq7, .slice Aq7 nq7 cq7]) _ ⟨hHeld, HG.out, H8.out, _, rfl, tI.M_mono HQ.out (Kd.M_lower tI HLs.out H7.out)⟩)
            · skip
              refine value_ (w1 := ?_) (v := ?_) (by rfl) rfl ?_ ?_
              rotate_left 2
              · go_simp
                constructor
                · rfl
                · rfl
              obtain ⟨W2, hW2⟩ : ∃ W', Aside0 (W' = W1.alloc (Obj.cells #[.int .i64 5, .int .i64 0, .int .i64 0, .string ⟨#[]⟩, .slice B2 n2 d2, .int .i64 5, .int .i64 0, .int .i64 0, .string ⟨#[]⟩, .slice B3 n3 d3] 25)) := ⟨_, ⟨rfl⟩⟩
              rw [← hW2.out]
              have hb2 : Below W1.heap.size W1 W2 := by rw [hW2.out]; exact (Below.refl _ _).alloc (Nat.le_refl _) _
              replace H8 := Aside0.mk (blk_below H8.out hb2)
              replace HZ := Aside0.mk (Nat.lt_of_lt_of_le HZ.out hb2.size)
              have H4 := Aside0.mk (C_two tS (show W2.heap[W1.heap.size]? = some (.cells (([.int .i64 5, .int .i64 0, .int .i64 0, .string ⟨#[]⟩, .slice B2 n2 d2] : List Value) ++ ([.int .i64 5, .int .i64 0, .int .i64 0, .string ⟨#[]⟩, .slice B3 n3 d3] : List Value)).toArray 25 (0, 0)) by rw [hW2.out]; exact heap_alloc_new _ _) (tS.K_below (below_step hHeld hb2) HK2.out) (tS.K_below (below_step hHeld hb2) HK3.out))
              refine hK.out _ _ ((below_step hHeld hb2)) (fun hHeld => ?_)
              clear hK K
              refine norm_ (a' := ?_) ?_ ?_
              rotate_left
              · show Act.put _ (some 45) _ = _
                simp only [Act.put, List.setIfInBounds_toArray, List.set_cons_zero, List.set_cons_succ, i64_w, i32_w]
                rfl
              refine one_ (i := 1) (N := some 42) #[true, true, true, true, true, false, false, false, true, false] rfl rfl (by kernel_rfl) (by decide) (fun K hK => ?_)
              refine goes_ Try.func8 (by kernel_rfl) rfl #[.agg #[.int .i64 5, .int .i64 0, .int .i64 0, .string ⟨#[]⟩, .slice B1 n1 d1]] (by rfl) rfl rfl (by simp only [List.map_toArray, List.map_cons, List.map_nil]; rfl) ?_
              with_reducible refine (ofTable (gridM la 3 3) F1.out.good.1.2 _ _ (tS.K_below hHeld HK1.out)).mono ?_
              rintro e W3 ⟨cs, rfl, hM, hb3⟩
              refine ⟨_, rfl, ?_⟩
              obtain ⟨kq1, xq1, sq1, Aq1, nq1, cq1, rfl⟩ := shapeI _ _ _ _ (Kd.K_of_M _ hM)
              replace H8 := Aside0.mk (blk_below H8.out hb3)
              replace HZ := Aside0.mk (Nat.lt_of_lt_of_le HZ.out hb3.size)
              replace H4 := Aside0.mk (Kd.C_below H4.out hb3)
              have H1 := Aside0.mk (Kd.K_of_M _ hM)
              refine hK.out _ _ ((below_step hHeld hb3)) (fun hHeld => ?_)
              clear hK K
              refine norm_ (a' := ?_) ?_ ?_
              rotate_left
              · show Act.put _ (some 42) _ = _
                simp only [Act.put, List.setIfInBounds_toArray, List.set_cons_zero, List.set_cons_succ, i64_w, i32_w]
                rfl
              refine one_ (i := 5) (N := some 46) #[true, true, true, true, true, true, false, false, true, false] rfl rfl (by kernel_rfl) (by decide) (fun K hK => ?_)
              refine goes_ Try.func7 (by kernel_rfl) rfl #[.func (.func 6) #[] #[], .slice (some ⟨W1.heap.size, 0, none⟩) 2 2] (by rfl) rfl rfl (by simp only [List.map_toArray, List.map_cons, List.map_nil]; rfl) ?_
              with_reducible refine (askMul (gridM lb 3 3) (gridM lc 3 3) 3 3 3 F2.out _ _ _ H4.out).mono ?_
              rintro e W4 ⟨cs, rfl, hM, hb4⟩
              refine ⟨_, rfl, ?_⟩
              obtain ⟨kq5, xq5, sq5, Aq5, nq5, cq5, rfl⟩ := shapeI _ _ _ _ (Kd.K_of_M _ hM)
              replace H8 := Aside0.mk (blk_below H8.out hb4)
              replace HZ := Aside0.mk (Nat.lt_of_lt_of_le HZ.out hb4.size)
              replace H4 := Aside0.mk (Kd.C_below H4.out hb4)
              replace H1 := Aside0.mk (tI.K_below hb4 H1.out)
              have H5 := Aside0.mk (Kd.K_of_M _ hM)
              refine hK.out _ _ ((below_step hHeld hb4)) (fun hHeld => ?_)
              clear hK K
              refine norm_ (a' := ?_) ?_ ?_
              rotate_left
              · show Act.put _ (some 46) _ = _
                simp only [Act.put, List.setIfInBounds_toArray, List.set_cons_zero, List.set_cons_succ, i64_w, i32_w]
                rfl
              refine one_ (i := 6) (N := some 47) #[true, true, true, true, true, true, true, false, true, false] rfl rfl (by kernel_rfl) (by decide) (fun K hK => ?_)
              refine value_ (w1 := ?_) (v := ?_) (by rfl) rfl ?_ ?_
              rotate_left 2
              · go_simp
                constructor
                · rfl
                · rfl
              obtain ⟨W5, hW5⟩ : ∃ W', Aside0 (W' = W4.alloc (Obj.cells #[.int .i64 kq1, .float .f64 xq1, .string sq1, .slice Aq1 nq1 cq1, .int .i64 kq5, .float .f64 xq5, .string sq5, .slice Aq5 nq5 cq5] 30)) := ⟨_, ⟨rfl⟩⟩
              rw [← hW5.out]
              have hb5 : Below W4.heap.size W4 W5 := by rw [hW5.out]; exact (Below.refl _ _).alloc (Nat.le_refl _) _
              replace H8 := Aside0.mk (blk_below H8.out hb5)
              replace HZ := Aside0.mk (Nat.lt_of_lt_of_le HZ.out hb5.size)
              replace H4 := Aside0.mk (Kd.C_below H4.out hb5)
              replace H1 := Aside0.mk (tI.K_below hb5 H1.out)
              replace H5 := Aside0.mk (tI.K_below hb5 H5.out)
              have H6 := Aside0.mk (C_two tI (show W5.heap[W4.heap.size]? = some (.cells (([.int .i64 kq1, .float .f64 xq1, .string sq1, .slice Aq1 nq1 cq1] : List Value) ++ ([.int .i64 kq5, .float .f64 xq5, .string sq5, .slice Aq5 nq5 cq5] : List Value)).toArray 30 (0, 0)) by rw [hW5.out]; exact heap_alloc_new _ _) H1.out H5.out)
              refine hK.out _ _ ((below_step hHeld hb5)) (fun hHeld => ?_)
              clear hK K
              refine norm_ (a' := ?_) ?_ ?_
              rotate_left
              · show Act.put _ (some 47) _ = _
                simp only [Act.put, List.setIfInBounds_toArray, List.set_cons_zero, List.set_cons_succ, i64_w, i32_w]
                rfl
              refine one_ (i := 7) (N := some 48) #[true, true, true, true, true, true, true, true, true, false] rfl rfl (by kernel_rfl) (by decide) (fun K hK => ?_)
              have HLs := Aside0.mk hHeld.size
              refine goes_ Try.func6 (by kernel_rfl) rfl #[.slice (some ⟨W4.heap.size, 0, none⟩) 2 2] (by rfl) rfl rfl (by simp only [List.map_toArray, List.map_cons, List.map_nil]; rfl) ?_
              with_reducible refine (implMul (gridM la 3 3) (mulM (gridM lb 3 3) (gridM lc 3 3) 3 3 3) 3 3 3 F4.out _ _ _ H6.out).mono ?_
              rintro e W6 ⟨cs, rfl, hM, hb6⟩
              refine ⟨_, rfl, ?_⟩
              obtain ⟨kq7, xq7, sq7, Aq7, nq7, cq7, rfl⟩ := shapeI _ _ _ _ (Kd.K_of_M _ hM)
              replace H8 := Aside0.mk (blk_below H8.out hb6)
              have hZ0 := HZ.out
              replace HZ := Aside0.mk (Nat.lt_of_lt_of_le HZ.out hb6.size)
              replace H4 := Aside0.mk (Kd.C_below H4.out hb6)
              replace H1 := Aside0.mk (tI.K_below hb6 H1.out)
              replace H5 := Aside0.mk (tI.K_below hb6 H5.out)
              replace H6 := Aside0.mk (Kd.C_below H6.out hb6)
              have H7 := Aside0.mk (tI.M_mono (ok' := fun q => W5.heap.size ≤ q ∧ q < W6.heap.size) (fun q hq => ⟨hq.2.1, hq.2.2.1⟩) (tI.M_bound hM))
              have HQ := Aside0.mk (show ∀ q, W5.heap.size ≤ q ∧ q < W6.heap.size → q ≠ W0.heap.size from fun q hq => by have := hZ0; omega)
              refine hK.out _ _ ((below_step hHeld hb6)) (fun hHeld => ?_)
              clear hK K
              refine norm_ (a' := ?_) ?_ ?_
              rotate_left
              · show Act.put _ (some 48) _ = _
                simp only [Act.put, List.setIfInBounds_toArray, List.set_cons_zero, List.set_cons_succ, i64_w, i32_w]
                rfl
              exact norm_ (by simp only [putAll, Act.put, List.setIfInBounds_toArray, List.set_cons_zero, List.set_cons_succ]) (hCont (W0.heap.size, .agg #[.int .i64 kq1, .float .f64 xq1, .string sq1, .slice Aq1 nq1 cq1], .slice (some ⟨W1.heap.size, 0, none⟩) 2 2, .agg #[.int .i64 kq5, .float .f64 xq5, .string sq5, .slice Aq5 nq5 cq5], .slice (some ⟨W4.heap.size, 0, none⟩) 2 2, .agg #[.int .i64 kq7, .float .f64 xq7, .string sq7, .slice Aq7 nq7 cq7]) _ ⟨hHeld, HG.out, H8.out, _, rfl, tI.M_mono HQ.out (Kd.M_lower tI HLs.out H7.out)⟩)
        rintro ⟨g11, v42, v45, v46, v47, v48⟩ w' ⟨hHeld, hG, h8, cs, hv, hM⟩
        obtain ⟨kl, xl, sl, AL, nl, cl, rfl⟩ := shapeI _ _ _ _ (Kd.K_of_M _ hM)
        simp only at hv hG h8 hM
        subst hv
        refine norm_ (a' := ?_) ?_ ?_
        rotate_left
        · simp only [putAll, Act.put, List.setIfInBounds_toArray, List.set_cons_zero, List.set_cons_succ]
          rfl
        refine last_ (i := 9) (N := none) #[true, true, true, true, true, true, true, true, true, true] rfl rfl (by kernel_rfl) (by decide) (fun K hK => ?_)
        have hth : w'.there g11 0 4 := fun q hq => ⟨by rw [blk_cell h8 (0 + q)]; simp; omega, blk_frozen h8 _⟩
        refine store_mid_step 30 (.tmp 11) (.tmp 48) (by rfl) rfl rfl g11 0 #[.int .i64 kl, .float .f64 xl, .string sl, .slice AL nl cl] rfl rfl hth (by kernel_rfl) (by simp [Value.oneCell']) ?_
        refine hK.out _ _ ?_
        clear hK K
        refine done_ (by kernel_rfl) ?_

        obtain ⟨wD, hwD⟩ : ∃ W', Aside0 (W' = w'.setCells g11 0 [.int .i64 kl, .float .f64 xl, .string sl, .slice AL nl cl]) := ⟨_, ⟨rfl⟩⟩
        rw [← hwD.out]
        have S_wD := Aside0.mk (show wD.heap[g11]? = some (.cells #[.int .i64 kl, .float .f64 xl, .string sl, .slice AL nl cl] 30 (0, 0)) by
          rw [hwD.out]
          have := heap_setCells g11 30 [.int .i64 kl, .float .f64 xl, .string sl, .slice AL nl cl] 0 [.int .i64 0, .float .f64 0, .string ⟨#[]⟩, .slice none 0 0] w' h8 (by simp)
          simpa using this)
        have K_wD := Aside0.mk (show tI.K wD (ta (mulM (gridM la 3 3) (mulM (gridM lb 3 3) (gridM lc 3 3) 3 3 3) 3 3 3)) [.int .i64 kl, .float .f64 xl, .string sl, .slice AL nl cl] by
          rw [hwD.out]
          exact Kd.K_of_M _ (Kd.M_step hM (fun q hq _ => setCells_other _ _ _ _ _ hq)))
        have hbwD : Below wC.heap.size wC wD := by rw [hwD.out]; exact below_setCells hG _ _ _ _ hHeld
        replace S_wC := Aside0.mk (blk_below S_wC.out hbwD)
        replace K_wC := Aside0.mk (tI.K_below hbwD K_wC.out)
        replace hbW := Aside0.mk (below_step hbW.out hbwD)
        clear hbwD hwD hHeld hG h8 hM hW0 hLo hth G1 G2 G3 HK1 HK2 HK3
        obtain ⟨P, hP⟩ : ∃ P, Aside0 (P = mulM (gridM la 3 3) (mulM (gridM lb 3 3) (gridM lc 3 3) 3 3 3) 3 3 3) := ⟨_, ⟨rfl⟩⟩
        have hPP : mulM (mulM (gridM la 3 3) (gridM lb 3 3) 3 3 3) (gridM lc 3 3) 3 3 3 = P := by rw [hP.out]; simp only [gridM_mat]; exact assoc3 _ _ _
        have hs3 := Aside0.mk (show Sized P 3 3 by rw [hP.out]; exact sized_mul _ _ _ _ _)
        have hfit := Aside0.mk (show Fits P by rw [hP.out]; exact F4.out.fits)
        rw [hPP] at K_wC
        rw [← hP.out] at K_wD
        obtain ⟨A10, c10, he10, hC10⟩ := cellsI_tab _ _ _ K_wC.out
        obtain ⟨A11, c11, he11, hC11⟩ := cellsI_tab _ _ _ K_wD.out
        rw [hs3.out.1] at he10 he11 hC10 hC11
        have S10 := S_wC.out
        rw [show (#[Value.int .i64 kk, .float .f64 xx, .string ss, .slice AA nn cc] : Array Value) = _ from congrArg List.toArray he10] at S10
        have S11 := S_wD.out
        rw [show (#[Value.int .i64 kl, .float .f64 xl, .string sl, .slice AL nl cl] : Array Value) = _ from congrArg List.toArray he11] at S11
        have u10 : ∀ n, (wD.drewN n).cell? ⟨g10, 0, none⟩ = some (.int .i64 5) := fun n => pw_cell_below (pw_below_drewN (Below.refl _ _) n) (blk_cell S10 0)
        have v10 : ∀ n, (wD.drewN n).cell? ⟨g10, 3, none⟩ = some (.slice A10 3 c10) := fun n => pw_cell_below (pw_below_drewN (Below.refl _ _) n) (blk_cell S10 3)
        have u11 : ∀ n, (wD.drewN n).cell? ⟨g11, 0, none⟩ = some (.int .i64 5) := fun n => pw_cell_below (pw_below_drewN (Below.refl _ _) n) (blk_cell S11 0)
        have v11 : ∀ n, (wD.drewN n).cell? ⟨g11, 3, none⟩ = some (.slice A11 3 c11) := fun n => pw_cell_below (pw_below_drewN (Below.refl _ _) n) (blk_cell S11 3)
        have u10' := u10 0
        have v10' := v10 0
        have u11' := u11 0
        have v11' := v11 0
        simp only [World.drewN_zero] at u10' v10' u11' v11'
        replace hC10 := Aside0.mk hC10
        replace hC11 := Aside0.mk hC11
        clear S10 S11 S_wC S_wD K_wC K_wD he10 he11 hPP F1 F2 F3 F4 hP
        go_wp2
        go_loopg [12] 3 (fun kq v12 w' => ∃ (i : Nat), v12 = .int .i64 i ∧ Aside0 (i + kq = 3) ∧ ∃ n, w' = wD.drewN n)
        case atStart => exact ⟨0, rfl, ⟨rfl⟩, 0, rfl⟩
        case round =>
          clear u10' v10' u11' v11'
          obtain ⟨i, rfl, HK, nd, rfl⟩ := hrel
          by_cases hi : i < 3
          · have d0 : decide ((i : Int) < 3) = true := decide_eq_true (by omega)
            have i1 : (0 : Int) ≤ (i : Int) := by omega
            have i2 : (i : Int) < 3 := by omega
            obtain ⟨R, hR⟩ : ∃ R, Aside0 (P[i]? = some R) := ⟨_, ⟨List.getElem?_eq_getElem (by rw [hs3.out.1]; exact hi)⟩⟩
            have hRl : R.length = 3 := hs3.out.2 _ (List.mem_of_getElem? hR.out)
            obtain ⟨a10, cs10, rfl, _, ⟨B10, b10, hx10, _, hr10⟩, hc10⟩ := Kd.C_get hC10.out [] (i : Int) i1 i2
            obtain ⟨a11, cs11, rfl, _, ⟨B11, b11, hx11, _, hr11⟩, hc11⟩ := Kd.C_get hC11.out [] (i : Int) i1 i2
            subst hx10
            subst hx11
            have hgd : (P.map (·.map nu)).getD (i : Int).toNat [] = R.map nu := by simp [List.getD_eq_getElem?_getD, hR.out]
            rw [hgd] at hr10 hr11 hc10 hc11
            simp only [List.length_map, hRl] at hr10 hr11 hc10 hc11
            have r10 : ∀ n, (wD.drewN n).cell? (a10.add i) = some (.slice B10 3 b10) := fun n => pw_cell_below (pw_below_drewN (Below.refl _ _) n) (by simpa [Kd.slice] using hc10 0 _ rfl)
            have r11 : ∀ n, (wD.drewN n).cell? (a11.add i) = some (.slice B11 3 b11) := fun n => pw_cell_below (pw_below_drewN (Below.refl _ _) n) (by simpa [Kd.slice] using hc11 0 _ rfl)
            replace hr10 := Aside0.mk hr10
            replace hr11 := Aside0.mk hr11
            obtain ⟨gi, hgi⟩ : ∃ gi : Nat, Aside0 (gi = gk) := ⟨_, ⟨rfl⟩⟩
            clear hc10 hc11 hgd
            go_wp2
            go_loopg [13] 3 (fun kq v13 w' => ∃ (j : Nat), v13 = .int .i64 j ∧ Aside0 (j + kq = 3) ∧ ∃ n, w' = wD.drewN n)
            case atStart => exact ⟨0, rfl, ⟨rfl⟩, _, rfl⟩
            case round =>
              obtain ⟨j, rfl, HKj, nj, rfl⟩ := hrel
              by_cases hj : j < 3
              · have e0 : decide ((j : Int) < 3) = true := decide_eq_true (by omega)
                have j1 : (0 : Int) ≤ (j : Int) := by omega
                have j2 : (j : Int) < 3 := by omega
                obtain ⟨x, hx⟩ : ∃ x, Aside0 (R[j]? = some x) := ⟨_, ⟨List.getElem?_eq_getElem (by omega)⟩⟩
                obtain ⟨y10, cy10, rfl, _, hy10, hq10⟩ := Kd.C_get hr10.out (nu 0) (j : Int) j1 j2
                obtain ⟨y11, cy11, rfl, _, hy11, hq11⟩ := Kd.C_get hr11.out (nu 0) (j : Int) j1 j2
                have hgd : (R.map nu).getD (j : Int).toNat (nu 0) = nu x := by simp [List.getD_eq_getElem?_getD, hx.out]
                rw [hgd] at hy10 hy11
                obtain ⟨Z10, zn10, zc10, rfl⟩ := cellsI_num _ _ _ hy10
                obtain ⟨Z11, zn11, zc11, rfl⟩ := cellsI_num _ _ _ hy11
                have p10 : ∀ n, (wD.drewN n).cell? (y10.add (j * 4)) = some (.int .i64 1) := fun n => pw_cell_below (pw_below_drewN (Below.refl _ _) n) (hq10 0 _ rfl)
                have q10 : ∀ n, (wD.drewN n).cell? (y10.add (j * 4 + 1)) = some (fl x) := fun n => pw_cell_below (pw_below_drewN (Below.refl _ _) n) (hq10 1 _ rfl)
                have q11 : ∀ n, (wD.drewN n).cell? (y11.add (j * 4 + 1)) = some (fl x) := fun n => pw_cell_below (pw_below_drewN (Below.refl _ _) n) (hq11 1 _ rfl)
                have q10' : ∀ n, (wD.drewN n).cell? ⟨(y10.add (j * 4)).block, (y10.add (j * 4)).off + 1, none⟩ = some (fl x) := fun n => by
                  have := q10 n
                  rw [← add_add'] at this
                  exact this
                have q11' : ∀ n, (wD.drewN n).cell? ⟨(y11.add (j * 4)).block, (y11.add (j * 4)).off + 1, none⟩ = some (fl x) := fun n => by
                  have := q11 n
                  rw [← add_add'] at this
                  exact this
                have hne := fne (hfit.out.2.2 R (List.mem_of_getElem? hR.out) x (List.mem_of_getElem? hx.out)) (hfit.out.2.2 R (List.mem_of_getElem? hR.out) x (List.mem_of_getElem? hx.out))
                simp only [decide_true, Bool.not_true] at hne
                clear hq10 hq11 hy10 hy11 hgd
                go_wp2
                go_quiet (fail)
                go_wp2
                go_roundg (gk - 1)
                case measure => have := HKj.out; omega
                case rel => exact ⟨j + 1, by simp, ⟨by have := HKj.out; omega⟩, _, rfl⟩
              · have e0 : decide ((j : Int) < 3) = false := decide_eq_false (by omega)
                obtain rfl : j = 3 := by have := HKj.out; omega
                go_wp2
                go_roundg (gi - 1)
                case measure => have := HK.out; have := hgi.out; omega
                case rel => exact ⟨i + 1, by simp, ⟨by have := HK.out; have := hgi.out; omega⟩, _, rfl⟩
          · have d0 : decide ((i : Int) < 3) = false := decide_eq_false (by omega)
            obtain rfl : i = 3 := by have := HK.out; omega
            go_wp2
            go_ret
            exact ⟨rfl, pw_below_drewN hbW.out _⟩
      · have z1 : decide ((2147483647 : Int) < (la.length : Int)) = false := decide_eq_false (by omega)
        have z2 : decide ((2147483647 : Int) < (lb.length : Int)) = false := decide_eq_false (by omega)
        have z3 : decide ((2147483647 : Int) < (lc.length : Int)) = true := decide_eq_true (by omega)
        go_enter Try.func3, Try.ntmps3
        go_wp2
        go_ret
        exact ⟨rfl, HB⟩
    · have z1 : decide ((2147483647 : Int) < (la.length : Int)) = false := decide_eq_false (by omega)
      have z2 : decide ((2147483647 : Int) < (lb.length : Int)) = true := decide_eq_true (by omega)
      go_enter Try.func3, Try.ntmps3
      go_wp2
      go_ret
      exact ⟨rfl, HB⟩
  · have z1 : decide ((2147483647 : Int) < (la.length : Int)) = true := decide_eq_true (by omega)
    go_enter Try.func3, Try.ntmps3
    go_wp2
    go_ret
    exact ⟨rfl, HB⟩
end Go.Proofs.Ytedbbekfpficpaa
