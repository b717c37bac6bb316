import Derived.Test.YtedbbekfpficpaaInst
set_option linter.unusedSimpArgs false
set_option linter.unusedVariables false
namespace Go.Proofs.Ytedbbekfpficpaa
open Go.RowKit Go.Proofs.YtedbbekfpficpaaW.PrintWords Go.Proofs.YtedbbekfpficpaaW.PrintLast Fl
/-- Two matrices whose product is exact as floats: r × k and k × c. -/
structure Fit2 (a b : List (List Int)) (r k c : Nat) : Prop where
  hr : 1 ≤ r ∧ r ≤ 100
  hk : 1 ≤ k ∧ k ≤ 100
  hc : 1 ≤ c ∧ c ≤ 100
  ha : Sized a r k
  hb : Sized b k c
  hx : ∀ i j q, (ent a i q).natAbs < 2 ^ 53 ∧ (ent b q j).natAbs < 2 ^ 53 ∧ (ent a i q * ent b q j).natAbs < 2 ^ 53 ∧ (dot a b i j q).natAbs < 2 ^ 53
theorem ent_of {m : List (List Int)} {x : List Int} {y : Int} (hx : x ∈ m) (hy : y ∈ x) : ∃ i j, ent m i j = y := by
  obtain ⟨i, hi, rfl⟩ := List.getElem_of_mem hx
  obtain ⟨j, hj, rfl⟩ := List.getElem_of_mem hy
  exact ⟨i, j, by simp [ent, List.getD_eq_getElem?_getD, List.getElem?_eq_getElem hi, List.getElem?_eq_getElem hj]⟩
theorem good_of {m : List (List Int)} {r c : Nat} (hr : 1 ≤ r ∧ r ≤ 100) (hc : c ≤ 100) (hs : Sized m r c) (hx : ∀ i j, (ent m i j).natAbs < 2 ^ 53) : Good m c ∧ Fits m := by
  have h1 : ∀ x ∈ m, x.length ≤ 100 := fun x h => by have := hs.2 x h; omega
  have h2 : ∀ x ∈ m, ∀ y ∈ x, y.natAbs < 2 ^ 53 := fun x h y hy => by
    obtain ⟨i, j, he⟩ := ent_of h hy
    rw [← he]; exact hx i j
  have h3 := hs.1
  exact ⟨⟨by omega, by omega, h1, fun x h => hs.2 x (List.mem_of_getElem? h), h2⟩, by omega, h1, h2⟩
theorem Fit2.good {a b : List (List Int)} {r k c : Nat} (h : Fit2 a b r k c) : (Good a k ∧ Fits a) ∧ Good b c ∧ Fits b :=
  ⟨good_of h.hr h.hk.2 h.ha (fun i j => (h.hx i 0 j).1), good_of h.hk h.hc.2 h.hb (fun i j => (h.hx 0 j i).2.1)⟩
theorem sized_mul (a b : List (List Int)) (r k c : Nat) : Sized (mulM a b r k c) r c := by
  refine ⟨by simp [mulM], fun x hx => ?_⟩
  obtain ⟨i, _, rfl⟩ := List.mem_map.1 hx
  simp
theorem Fit2.fits {a b : List (List Int)} {r k c : Nat} (h : Fit2 a b r k c) : Fits (mulM a b r k c) := by
  have hs := sized_mul a b r k c
  have := h.hr
  have := h.hc
  refine ⟨by have := hs.1; omega, fun x hx => by have := hs.2 x hx; omega, fun x hx y hy => ?_⟩
  obtain ⟨i, _, rfl⟩ := List.mem_map.1 hx
  obtain ⟨j, _, rfl⟩ := List.mem_map.1 hy
  exact (h.hx i j k).2.2.2
theorem St.two {a b : List (List Int)} {k c g : Nat} {w : World} (h : St [(a, k), (b, c)] g 2 w) : ∃ e1 e2 A1 c1 p1 q1 A2 c2 p2 q2, isL w g e1 e2 2 ∧ isE w e1 e2 g g (.iface 58 (argV A1 a.length c1 p1 q1)) ∧ isE w e2 g e1 g (.iface 58 (argV A2 b.length c2 p2 q2)) ∧
    (Kd.slice 58 nF).C w A1 a.length (a.map (·.map nu)) ∧ (Kd.slice 58 nF).C w A2 b.length (b.map (·.map nu)) := by
  rcases h with ⟨h, _⟩ | ⟨h, _⟩ | ⟨_, t, u, ht, hu, e1, e2, v1, v2, lo, hi, lo', hi', hL, hE1, hE2, hA1, hA2⟩
  · omega
  · omega
  · obtain rfl : (a, k) = t := by simpa using ht
    obtain rfl : (b, c) = u := by simpa using hu
    obtain ⟨A1, c1, p1, q1, _, rfl, hC1, _⟩ := hA1.at
    obtain ⟨A2, c2, p2, q2, _, rfl, hC2, _⟩ := hA2.at
    exact ⟨e1, e2, A1, c1, p1, q1, A2, c2, p2, q2, hL, hE1, hE2, dN_nF2 hC1, dN_nF2 hC2⟩
theorem innerList2 (a b : List (List Int)) (k c : Nat) (ha : Good a k) (hb : Good b c) (A : Option Addr) (c0 : Nat) (w : World) (hC : tA.C w A 2 [ta a, ta b]) :
    Calls Try.prog 24 #[.slice A 2 c0] w fun e w' => e = .returned (pt w.heap.size) ∧ St [(a, k), (b, c)] w.heap.size 2 w' ∧ Below w.heap.size w w' :=
  innerList_ [(a, k), (b, c)] (by simp) (by
    intro t ht
    simp only [List.mem_cons, List.not_mem_nil, or_false] at ht
    rcases ht with rfl | rfl
    · exact ha
    · exact hb) A c0 w hC
/-- What was made behind the result's own block is still there when the result has been stored. -/
theorem made_row {β : Type} (d : Kd β) {y : β} {cs : List Value} {w w1 w2 : World} {cells : Array Value} (hM : d.M w2 w1.heap.size (fun _ => True) y cs) (h1 : w.heap.size < w1.heap.size) (hb : Below w.heap.size w w2) (he : cells = cs.toArray) : Made d y w (.returned (.agg cells)) (w2.setRow w.heap.size cells) := by
  refine ⟨cs, by rw [he], ?_, Below.setRow hb (Nat.le_refl _) _⟩
  refine Kd.M_lower d (base := w1.heap.size) (by omega) (d.M_mono (fun _ _ => trivial) (Kd.M_step (d.M_bound hM) (fun k hk _ => setRow_other _ _ _ _ (by have := hk.2.1; omega))))
attribute [local go_sem] run_store_float
set_option maxHeartbeats 1000000 in
set_option maxRecDepth 100000 in
theorem doorMul (a b : List (List Int)) (r k c : Nat) (h : Fit2 a b r k c) (A : Option Addr) (c0 : Nat) (w : World) (hC : tA.C w A 2 [ta a, ta b]) :
    Calls Try.prog 16 #[.slice A 2 c0] w (Made tA (ta (mulM a b r k c)) w) := by
  have HC := Aside0.mk hC
  have HF := Aside0.mk h
  have HG := Aside0.mk h.good
  have HM := Aside0.mk h.fits
  clear hC h
  go_enter Try.func16, Try.ntmps16
  go_wp2_with (first
    | (go_at_call 22; refine (doorFuncs _).mono ?_; rintro e w1 ⟨⟨fp, rfl⟩, hb1⟩
       have hR1 := Aside0.mk (blk_below (g := w.heap.size) (heap_alloc_new _ _) hb1)
       have hs1 := Aside0.mk (show w.heap.size + 1 ≤ w1.heap.size by have := hb1.size; simp at this; omega)
       have hb1 := Aside0.mk (below_then ((Below.refl w.heap.size w).alloc (Nat.le_refl _) _) (by simp) hb1))
    | (go_at_call 24; refine (innerList2 a b k c HG.out.1.1 HG.out.2.1 A c0 _ (Kd.C_below HC.out hb1.out)).mono ?_; rintro e w2 ⟨rfl, hSt, hb2⟩
       obtain ⟨e1, e2, A1, c1, p1, q1, A2, c2, p2, q2, hL, hE1, hE2, hC1, hC2⟩ := hSt.two
       have hL := Aside0.mk hL; have hE1 := Aside0.mk hE1; have hE2 := Aside0.mk hE2; have hC1 := Aside0.mk hC1; have hC2 := Aside0.mk hC2; have hb2 := Aside0.mk hb2)
    | (go_at_call 23; refine (mmult a b r k c HF.out.hr HF.out.hk HF.out.hc HF.out.ha HF.out.hb HF.out.hx w1.heap.size e1 e2 _ (F 0) (F 0) c1 c2 A1 A2 (some ⟨p1, 0, none⟩) (some ⟨q1, 0, none⟩) (some ⟨p2, 0, none⟩) (some ⟨q2, 0, none⟩) w2 hL.out hE1.out hE2.out hC1.out hC2.out).mono ?_; rintro e w3 ⟨cs3, rfl, hK3, hb3⟩
       have hK3 := Aside0.mk hK3; have hb3 := Aside0.mk hb3)
    | (go_at_call 21; refine (doorTable (mulM a b r k c) HM.out cs3 w3 hK3.out).mono ?_; rintro e w4 ⟨cs4, rfl, hM4, hb4⟩
       obtain ⟨kk, xx, ss, AA, nn, cc, rfl⟩ := shapeA _ _ _ _ (Kd.K_of_M _ hM4)
       have hM4 := Aside0.mk hM4; have hb4 := Aside0.mk hb4
       have hR4 := Aside0.mk (blk_below (blk_below (blk_below hR1.out hb2.out) hb3.out) hb4.out))
    | (refine wpList_store_row rfl 46 (.tmp 2) (.tmp 7) rfl w.heap.size _ rfl rfl 46 _ hR4.out (by kernel_rfl) rfl (by simp [Value.oneCell']) ?_))
  refine bodyPost_ret (results_cell_row rfl _ _ w.heap.size 46 #[.int .i64 kk, .float .f64 xx, .string ss, .slice AA nn cc] (0, 0) _ rfl (setRow_heap _ _ _ _ _ _ hR4.out) Try.underlying46 rfl (by kernel_rfl)) rfl ?_
  have z1 := hs1.out
  have z2 := hb2.out.size
  have z3 := hb3.out.size
  exact made_row tA hM4.out (by omega) (below_step (below_step (below_step hb1.out hb2.out) hb3.out) hb4.out) rfl
set_option maxHeartbeats 1000000 in
set_option maxRecDepth 100000 in
theorem implMul (a b : List (List Int)) (r k c : Nat) (h : Fit2 a b r k c) (A : Option Addr) (c0 : Nat) (w : World) (hC : tI.C w A 2 [ta a, ta b]) :
    Calls Try.prog 6 #[.slice A 2 c0] w (Made tI (ta (mulM a b r k c)) w) := by
  have HC := Aside0.mk hC
  have HF := Aside0.mk h
  have HG := Aside0.mk h.good
  have HM := Aside0.mk h.fits
  clear hC h
  have hin := fun w' hC' => inTables [a, b] (by simp) (by
    intro m hm
    simp only [List.mem_cons, List.not_mem_nil, or_false] at hm
    rcases hm with rfl | rfl
    · exact HG.out.1.2
    · exact HG.out.2.2) A c0 w' hC'
  have hin := Aside0.mk (show ∀ w', tI.C w' A 2 [ta a, ta b] → Calls Try.prog 17 #[.slice A 2 c0] w' (MadeRow tA 46 [ta a, ta b] w') from hin)
  go_enter Try.func6, Try.ntmps6
  go_wp2_with (first
    | (go_at_call 17; refine (hin.out _ (Kd.C_below HC.out ((Below.refl _ _).alloc (Nat.le_refl _) _))).mono ?_; rintro e w1 ⟨v1, rfl, hM1, hb1⟩
       have hR1 := Aside0.mk (blk_below (g := w.heap.size) (heap_alloc_new _ _) hb1)
       have hs1 := Aside0.mk (show w.heap.size + 1 ≤ w1.heap.size by have := hb1.size; simp at this; omega)
       have hb1 := Aside0.mk (below_then ((Below.refl w.heap.size w).alloc (Nat.le_refl _) _) (by simp) hb1)
       obtain ⟨A1, c1, rfl, _, hC1⟩ := Kd.R_reads hM1
       have hC1 := Aside0.mk (show tA.C w1 A1 2 [ta a, ta b] from hC1))
    | (go_at_call 16; refine (doorMul a b r k c HF.out A1 c1 _ hC1.out).mono ?_; rintro e w2 ⟨cs2, rfl, hM2, hb2⟩
       have hK2 := Aside0.mk (Kd.K_of_M _ hM2); have hb2 := Aside0.mk hb2)
    | (go_at_call 15; refine (outTable (mulM a b r k c) HM.out cs2 _ hK2.out).mono ?_; rintro e w4 ⟨cs4, rfl, hM4, hb4⟩
       obtain ⟨kk, xx, ss, AA, nn, cc, rfl⟩ := shapeI _ _ _ _ (Kd.K_of_M _ hM4)
       have hM4 := Aside0.mk hM4; have hb4 := Aside0.mk hb4
       have hR4 := Aside0.mk (blk_below (blk_below hR1.out hb2.out) hb4.out))
    | (refine wpList_store_row rfl 30 (.tmp 2) (.tmp 6) rfl w.heap.size _ rfl rfl 30 _ hR4.out (by kernel_rfl) rfl (by simp [Value.oneCell']) ?_))
  refine bodyPost_ret (results_cell_row rfl _ _ w.heap.size 30 #[.int .i64 kk, .float .f64 xx, .string ss, .slice AA nn cc] (0, 0) _ rfl (setRow_heap _ _ _ _ _ _ hR4.out) Try.underlying30 rfl (by kernel_rfl)) rfl ?_
  have z1 := hs1.out
  have z2 := hb2.out.size
  exact made_row tI hM4.out (by omega) (below_step (below_step hb1.out hb2.out) hb4.out) rfl
set_option maxHeartbeats 1000000 in
set_option maxRecDepth 100000 in
theorem askMul (a b : List (List Int)) (r k c : Nat) (h : Fit2 a b r k c) (A : Option Addr) (c0 : Nat) (w : World) (hC : tS.C w A 2 [ta a, ta b]) :
    Calls Try.prog 7 #[.func (.func 6) #[] #[], .slice A 2 c0] w (Made tI (ta (mulM a b r k c)) w) := by
  have HC := Aside0.mk hC
  have HF := Aside0.mk h
  have HG := Aside0.mk h.good
  clear hC h
  have hin := fun w' hC' => allTables [a, b] (by simp) (by
    intro m hm
    simp only [List.mem_cons, List.not_mem_nil, or_false] at hm
    rcases hm with rfl | rfl
    · exact HG.out.1.2
    · exact HG.out.2.2) A c0 w' hC'
  have hin := Aside0.mk (show ∀ w', tS.C w' A 2 [ta a, ta b] → Calls Try.prog 18 #[.slice A 2 c0] w' (MadeRow tI 30 [ta a, ta b] w') from hin)
  go_enter Try.func7, Try.ntmps7
  go_wp2_with (first
    | (go_at_call 18; refine (hin.out _ (Kd.C_below HC.out ((Below.refl _ _).alloc (Nat.le_refl _) _))).mono ?_; rintro e w1 ⟨v1, rfl, hM1, hb1⟩
       have hR1 := Aside0.mk (blk_below (g := w.heap.size) (heap_alloc_new _ _) hb1)
       have hs1 := Aside0.mk (show w.heap.size + 1 ≤ w1.heap.size by have := hb1.size; simp at this; omega)
       have hb1 := Aside0.mk (below_then ((Below.refl w.heap.size w).alloc (Nat.le_refl _) _) (by simp) hb1)
       obtain ⟨A1, c1, rfl, _, hC1⟩ := Kd.R_reads hM1
       have hC1 := Aside0.mk (show tI.C w1 A1 2 [ta a, ta b] from hC1))
    | (go_at_call 6; refine (implMul a b r k c HF.out A1 c1 _ hC1.out).mono ?_; rintro e w4 ⟨cs4, rfl, hM4, hb4⟩
       obtain ⟨kk, xx, ss, AA, nn, cc, rfl⟩ := shapeI _ _ _ _ (Kd.K_of_M _ hM4)
       have hM4 := Aside0.mk hM4; have hb4 := Aside0.mk hb4
       have hR4 := Aside0.mk (blk_below hR1.out hb4.out))
    | (refine wpList_store_row rfl 30 (.tmp 4) (.tmp 8) rfl w.heap.size _ rfl rfl 30 _ hR4.out (by kernel_rfl) rfl (by simp [Value.oneCell']) ?_))
  refine bodyPost_ret (results_cell_row rfl _ _ w.heap.size 30 #[.int .i64 kk, .float .f64 xx, .string ss, .slice AA nn cc] (0, 0) _ rfl (setRow_heap _ _ _ _ _ _ hR4.out) Try.underlying30 rfl (by kernel_rfl)) rfl ?_
  have z1 := hs1.out
  exact made_row tI hM4.out (by omega) (below_step hb1.out hb4.out) rfl
end Go.Proofs.Ytedbbekfpficpaa
