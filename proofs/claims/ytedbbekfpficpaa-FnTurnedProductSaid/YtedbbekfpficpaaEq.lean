import Derived.Test.YtedbbekfpficpaaCallT
import Derived.Test.YtedbbekfpficpaaProd
set_option linter.unusedSimpArgs false
set_option linter.unusedVariables false
namespace Go.Proofs.Ytedbbekfpficpaa
open Go.RowKit Go.Proofs.YtedbbekfpficpaaW.PrintWords Go.Proofs.YtedbbekfpficpaaW.PrintLast Fl
theorem add_add_ (a : Addr) (m k : Nat) : (a.add m).add k = a.add (m + k) := add_add' a m k
attribute [local go_sem] run_store_float
set_option maxHeartbeats 2000000 in
set_option maxRecDepth 100000 in
theorem eqTables (P : List (List Int)) (r c : Nat) (hr : 1 ≤ r ∧ r ≤ 100) (hc : 1 ≤ c ∧ c ≤ 100) (hs : Sized P r c) (hf : Fits P) (A1 A2 : Option Addr) (c1 c2 : Nat) (w : World) (h1 : (Kd.slice 30 nI).C w A1 r (P.map (·.map nu))) (h2 : (Kd.slice 30 nI).C w A2 r (P.map (·.map nu))) :
    Calls Try.prog 12 #[.agg #[.int .i64 5, fl 0, .string ⟨#[]⟩, .slice A1 r c1], .agg #[.int .i64 5, fl 0, .string ⟨#[]⟩, .slice A2 r c2]] w fun e w' => e = .returned (.bool true) ∧ Below w.heap.size w w' := by
  have HS := Aside0.mk hs
  have HF := Aside0.mk hf
  have hr' := Aside0.mk hr
  have hc' := Aside0.mk hc
  have hrI : (r : Int) ≤ 100 := by omega
  have hcI : (c : Int) ≤ 100 := by omega
  have hr0 : (0 : Int) < (r : Int) := by omega
  have hr0' : 0 < r := by omega
  obtain ⟨w1, hw1⟩ : ∃ w1, Aside0 (w1 = (w.alloc (Obj.cells #[.int .i64 5, fl 0, .string ⟨#[]⟩, .slice A1 r c1] 30)).alloc (Obj.cells #[.int .i64 5, fl 0, .string ⟨#[]⟩, .slice A2 r c2] 30)) := ⟨_, ⟨rfl⟩⟩
  have hb1 : Below w.heap.size w w1 := by rw [hw1.out]; repeat (first | exact Below.refl _ _ | refine Below.alloc ?_ (by simp <;> omega) _)
  have S1 : w1.heap[w.heap.size]? = some (.cells #[.int .i64 5, fl 0, .string ⟨#[]⟩, .slice A1 r c1] 30 (0, 0)) := by rw [hw1.out]; exact blk_alloc (heap_alloc_new _ _) _
  have S2 : w1.heap[w.heap.size + 1]? = some (.cells #[.int .i64 5, fl 0, .string ⟨#[]⟩, .slice A2 r c2] 30 (0, 0)) := by rw [hw1.out]; exact blk_at (by simp)
  have f3a : ∀ W, Below w1.heap.size w1 W → W.cell? ⟨w.heap.size, 3, none⟩ = some (.slice A1 r c1) := fun W hW => pw_cell_below hW (blk_cell S1 3)
  have f3b : ∀ W, Below w1.heap.size w1 W → W.cell? ⟨w.heap.size + 1, 3, none⟩ = some (.slice A2 r c2) := fun W hW => pw_cell_below hW (blk_cell S2 3)
  have HC1 := Aside0.mk (Kd.C_below h1 hb1)
  have HC2 := Aside0.mk (Kd.C_below h2 hb1)
  replace hb1 := Aside0.mk hb1
  obtain ⟨a1, _, rfl, _⟩ := Kd.C_get h1 [] 0 (by omega) (by omega)
  obtain ⟨a2, _, rfl, _⟩ := Kd.C_get h2 [] 0 (by omega) (by omega)
  clear h1 h2 hs hf hr hc S1 S2
  go_enter Try.func12, Try.ntmps12
  go_wp2
  rw [← hw1.out]
  clear hw1
  go_loopg [5] r (fun kq v5 w' => ∃ (i : Nat), v5 = .int .i64 i ∧ Aside0 (i + kq = r) ∧ Aside0 (Below w1.heap.size w1 w'))
  case atStart => exact ⟨0, rfl, ⟨by omega⟩, ⟨Below.refl _ _⟩⟩
  case round =>
    obtain ⟨i, rfl, HKi, HBi⟩ := hrel
    obtain ⟨gi, hgi⟩ : ∃ gi : Nat, Aside0 (gi = gk) := ⟨_, ⟨rfl⟩⟩
    have u1 : ∀ n, (wr.drewN n).cell? ⟨w.heap.size, 3, none⟩ = some (.slice (some a1) r c1) := fun n => f3a _ (pw_below_drewN HBi.out n)
    have u2 : ∀ n, (wr.drewN n).cell? ⟨w.heap.size + 1, 3, none⟩ = some (.slice (some a2) r c2) := fun n => f3b _ (pw_below_drewN HBi.out n)
    have u1' := f3a _ HBi.out
    have u2' := f3b _ HBi.out
    by_cases hi : i < r
    · have d1 : decide ((i : Int) < (r : Int)) = true := decide_eq_true (by omega)
      have i1 : (0 : Int) ≤ (i : Int) := by omega
      have i2 : (i : Int) < (r : Int) := by omega
      obtain ⟨R, hR⟩ : ∃ R, Aside0 (P[i]? = some R) := ⟨_, ⟨List.getElem?_eq_getElem (by rw [HS.out.1]; exact hi)⟩⟩
      have hRl := Aside0.mk (show R.length = c from HS.out.2 _ (List.mem_of_getElem? hR.out))
      obtain ⟨a1', cs1, hA1, _, ⟨B1, b1, hx1, _, hr1⟩, hc1⟩ := Kd.C_get HC1.out [] (i : Int) i1 i2
      obtain ⟨a2', cs2, hA2, _, ⟨B2, b2, hx2, _, hr2⟩, hc2⟩ := Kd.C_get HC2.out [] (i : Int) i1 i2
      obtain rfl : a1 = a1' := by injection hA1
      obtain rfl : a2 = a2' := by injection hA2
      subst hx1
      subst hx2
      have hgd : (P.map (·.map nu)).getD (i : Int).toNat [] = R.map nu := by simp [List.getD_eq_getElem?_getD, hR.out]
      rw [hgd] at hr1 hr2 hc1 hc2
      rw [List.length_map, hRl.out] at hr1 hr2 hc1 hc2
      have fr1 : ∀ W, Below w1.heap.size w1 W → W.cell? (a1.add i) = some (.slice B1 c b1) := fun W hW => pw_cell_below hW (by simpa [Kd.slice] using hc1 0 _ rfl)
      have fr2 : ∀ W, Below w1.heap.size w1 W → W.cell? (a2.add i) = some (.slice B2 c b2) := fun W hW => pw_cell_below hW (by simpa [Kd.slice] using hc2 0 _ rfl)
      have v1 : ∀ n, (wr.drewN n).cell? (a1.add i) = some (.slice B1 c b1) := fun n => fr1 _ (pw_below_drewN HBi.out n)
      have v2 : ∀ n, (wr.drewN n).cell? (a2.add i) = some (.slice B2 c b2) := fun n => fr2 _ (pw_below_drewN HBi.out n)
      replace hr1 := Aside0.mk hr1
      replace hr2 := Aside0.mk hr2
      obtain ⟨y1, _, hB1, _⟩ := Kd.C_get hr1.out (nu 0) 0 (by omega) (by have := hc'.out; omega)
      obtain ⟨y2, _, hB2, _⟩ := Kd.C_get hr2.out (nu 0) 0 (by omega) (by have := hc'.out; omega)
      subst hB1 hB2
      clear hc1 hc2 hgd hA1 hA2
      go_wp2
      go_quiet (fail)
      go_wp2
      go_loopg [6] c (fun kq v6 w' => ∃ (j : Nat), v6 = .int .i64 j ∧ Aside0 (j + kq = c) ∧ Aside0 (Below w1.heap.size w1 w'))
      case atStart => exact ⟨0, rfl, ⟨by omega⟩, ⟨pw_below_drewN HBi.out _⟩⟩
      case round =>
        clear u1 u2 u1' u2' v1 v2 HBi
        obtain ⟨j, rfl, HKj, HBj⟩ := hrel
        have u1' := f3a _ HBj.out
        have v1' := fr1 _ HBj.out
        by_cases hj : j < c
        · have d2 : decide ((j : Int) < (c : Int)) = true := decide_eq_true (by omega)
          have j1 : (0 : Int) ≤ (j : Int) := by omega
          have j2 : (j : Int) < (c : Int) := by omega
          obtain ⟨x, hx⟩ : ∃ x, Aside0 (R[j]? = some x) := ⟨_, ⟨List.getElem?_eq_getElem (by rw [hRl.out]; exact hj)⟩⟩
          obtain ⟨y1', cy1, hy1', _, hy1, hq1⟩ := Kd.C_get hr1.out (nu 0) (j : Int) j1 j2
          obtain ⟨y2', cy2, hy2', _, hy2, hq2⟩ := Kd.C_get hr2.out (nu 0) (j : Int) j1 j2
          obtain rfl : y1 = y1' := by injection hy1'
          obtain rfl : y2 = y2' := by injection hy2'
          have hgd : (R.map nu).getD (j : Int).toNat (nu 0) = nu x := by simp [List.getD_eq_getElem?_getD, hx.out]
          rw [hgd] at hy1 hy2
          obtain ⟨Z1, zn1, zc1, rfl⟩ := cellsI_num _ _ _ hy1
          obtain ⟨Z2, zn2, zc2, rfl⟩ := cellsI_num _ _ _ hy2
          clear hy1 hy2 hgd hy1' hy2'
          have hne := fne (HF.out.2.2 R (List.mem_of_getElem? hR.out) x (List.mem_of_getElem? hx.out)) (HF.out.2.2 R (List.mem_of_getElem? hR.out) x (List.mem_of_getElem? hx.out))
          simp only [decide_true, Bool.not_true] at hne
          obtain ⟨wC, rfl⟩ : ∃ wC : World, wC = wr := ⟨_, rfl⟩
          have hle : w1.heap.size ≤ wC.heap.size := HBj.out.size
          have fe10 : ∀ W, Below w1.heap.size w1 W → W.cell? (y1.add (j * 4)) = some (.int .i64 1) := fun W hW => pw_cell_below hW (by
            have : w1.cell? (y1.add (j * 4 + 0)) = some (.int .i64 1) := hq1 0 _ rfl
            exact this)
          have fe11 : ∀ W, Below w1.heap.size w1 W → W.cell? ⟨(y1.add (j * 4)).block, (y1.add (j * 4)).off + 1, none⟩ = some (fl x) := fun W hW => pw_cell_below hW (by
            have : w1.cell? (y1.add (j * 4 + 1)) = some (fl x) := hq1 1 _ rfl
            rw [← add_add_ y1 (j * 4) 1] at this
            exact this)
          have fe12 : ∀ W, Below w1.heap.size w1 W → W.cell? ⟨(y1.add (j * 4)).block, (y1.add (j * 4)).off + 2, none⟩ = some (.string ⟨#[]⟩) := fun W hW => pw_cell_below hW (by
            have : w1.cell? (y1.add (j * 4 + 2)) = some (.string ⟨#[]⟩) := hq1 2 _ rfl
            rw [← add_add_ y1 (j * 4) 2] at this
            exact this)
          have fe13 : ∀ W, Below w1.heap.size w1 W → W.cell? ⟨(y1.add (j * 4)).block, (y1.add (j * 4)).off + 3, none⟩ = some (.slice Z1 zn1 zc1) := fun W hW => pw_cell_below hW (by
            have : w1.cell? (y1.add (j * 4 + 3)) = some (.slice Z1 zn1 zc1) := hq1 3 _ rfl
            rw [← add_add_ y1 (j * 4) 3] at this
            exact this)
          have fe20 : ∀ W, Below w1.heap.size w1 W → W.cell? (y2.add (j * 4)) = some (.int .i64 1) := fun W hW => pw_cell_below hW (by
            have : w1.cell? (y2.add (j * 4 + 0)) = some (.int .i64 1) := hq2 0 _ rfl
            exact this)
          have fe21 : ∀ W, Below w1.heap.size w1 W → W.cell? ⟨(y2.add (j * 4)).block, (y2.add (j * 4)).off + 1, none⟩ = some (fl x) := fun W hW => pw_cell_below hW (by
            have : w1.cell? (y2.add (j * 4 + 1)) = some (fl x) := hq2 1 _ rfl
            rw [← add_add_ y2 (j * 4) 1] at this
            exact this)
          have fe22 : ∀ W, Below w1.heap.size w1 W → W.cell? ⟨(y2.add (j * 4)).block, (y2.add (j * 4)).off + 2, none⟩ = some (.string ⟨#[]⟩) := fun W hW => pw_cell_below hW (by
            have : w1.cell? (y2.add (j * 4 + 2)) = some (.string ⟨#[]⟩) := hq2 2 _ rfl
            rw [← add_add_ y2 (j * 4) 2] at this
            exact this)
          have fe23 : ∀ W, Below w1.heap.size w1 W → W.cell? ⟨(y2.add (j * 4)).block, (y2.add (j * 4)).off + 3, none⟩ = some (.slice Z2 zn2 zc2) := fun W hW => pw_cell_below hW (by
            have : w1.cell? (y2.add (j * 4 + 3)) = some (.slice Z2 zn2 zc2) := hq2 3 _ rfl
            rw [← add_add_ y2 (j * 4) 3] at this
            exact this)
          clear hq1 hq2
          go_wp2
          skip
          refine start_ (n := 20) (S := fun w' => Below wC.heap.size wC w') (ds := [19]) #[false, false, false, false, false, false, false, false, false, false, false, false, false, false, false, false, false, false, false, false] (by kernel_rfl) rfl rfl ((Below.refl _ _).drew) (fun hHeld => ?_)
          refine pure_ (i := 0) (N := some 56) (v := ?_) (a' := ?_) #[true, false, false, false, false, false, false, false, false, false, false, false, false, false, false, false, false, false, false, false] rfl rfl (by kernel_rfl) (fun _ _ _ h => h) (Or.inl ⟨by rfl, ?_⟩) ?_ ?_
          rotate_left
          · intro w'
            go_simp
            with_reducible rfl
          rotate_left
          · simp only [Act.put, List.setIfInBounds_toArray, List.set_cons_zero, List.set_cons_succ, i64_w, i32_w]
            rfl
          refine pure_ (i := 2) (N := some 58) (v := ?_) (a' := ?_) #[true, false, true, false, false, false, false, false, false, false, false, false, false, false, false, false, false, false, false, false] rfl rfl (by kernel_rfl) (fun _ _ _ h => h) (Or.inl ⟨by rfl, ?_⟩) ?_ ?_
          rotate_left
          · intro w'
            go_simp
            with_reducible rfl
          rotate_left
          · simp only [Act.put, List.setIfInBounds_toArray, List.set_cons_zero, List.set_cons_succ, i64_w, i32_w]
            rfl
          refine pure_ (i := 5) (N := some 61) (v := ?_) (a' := ?_) #[true, false, true, false, false, true, false, false, false, false, false, false, false, false, false, false, false, false, false, false] rfl rfl (by kernel_rfl) (fun _ _ _ h => h) (Or.inl ⟨by rfl, ?_⟩) ?_ ?_
          rotate_left
          · intro w'
            go_simp
            with_reducible rfl
          rotate_left
          · simp only [Act.put, List.setIfInBounds_toArray, List.set_cons_zero, List.set_cons_succ, i64_w, i32_w]
            rfl
          refine pure_ (i := 8) (N := some 64) (v := ?_) (a' := ?_) #[true, false, true, false, false, true, false, false, true, false, false, false, false, false, false, false, false, false, false, false] rfl rfl (by kernel_rfl) (fun _ _ _ h => h) (Or.inl ⟨by rfl, ?_⟩) ?_ ?_
          rotate_left
          · intro w'
            go_simp
            with_reducible rfl
          rotate_left
          · simp only [Act.put, List.setIfInBounds_toArray, List.set_cons_zero, List.set_cons_succ, i64_w, i32_w]
            rfl
          refine pure_ (i := 10) (N := some 66) (v := ?_) (a' := ?_) #[true, false, true, false, false, true, false, false, true, false, true, false, false, false, false, false, false, false, false, false] rfl rfl (by kernel_rfl) (fun _ _ _ h => h) (Or.inl ⟨by rfl, ?_⟩) ?_ ?_
          rotate_left
          · intro w'
            go_simp
            with_reducible rfl
          rotate_left
          · simp only [Act.put, List.setIfInBounds_toArray, List.set_cons_zero, List.set_cons_succ, i64_w, i32_w]
            rfl
          refine pure_ (i := 13) (N := some 69) (v := ?_) (a' := ?_) #[true, false, true, false, false, true, false, false, true, false, true, false, false, true, false, false, false, false, false, false] rfl rfl (by kernel_rfl) (fun _ _ _ h => h) (Or.inl ⟨by rfl, ?_⟩) ?_ ?_
          rotate_left
          · intro w'
            go_simp
            with_reducible rfl
          rotate_left
          · simp only [Act.put, List.setIfInBounds_toArray, List.set_cons_zero, List.set_cons_succ, i64_w, i32_w]
            rfl
          refine take_ (i := 1) (N := some 57) (v := ?_) (a' := ?_) #[true, true, true, false, false, true, false, false, true, false, true, false, false, true, false, false, false, false, false, false] rfl rfl (by kernel_rfl) (fun _ _ _ h => h) (Or.inl ⟨by rfl, ?_⟩) hHeld ?_ ?_
          rotate_left
          · intro w' s0
            have e0 := f3a _ (HBj.out.trans (s0.mono hle))
            go_simp
            with_reducible rfl
          rotate_left
          · simp only [Act.put, List.setIfInBounds_toArray, List.set_cons_zero, List.set_cons_succ, i64_w, i32_w]
            rfl
          refine pure_ (i := 3) (N := some 59) (v := ?_) (a' := ?_) #[true, true, true, true, false, true, false, false, true, false, true, false, false, true, false, false, false, false, false, false] rfl rfl (by kernel_rfl) (fun _ _ _ h => h) (Or.inl ⟨by rfl, ?_⟩) ?_ ?_
          rotate_left
          · intro w'
            go_simp
            with_reducible rfl
          rotate_left
          · simp only [Act.put, List.setIfInBounds_toArray, List.set_cons_zero, List.set_cons_succ, i64_w, i32_w]
            rfl
          refine take_ (i := 4) (N := some 60) (v := ?_) (a' := ?_) #[true, true, true, true, true, true, false, false, true, false, true, false, false, true, false, false, false, false, false, false] rfl rfl (by kernel_rfl) (fun _ _ _ h => h) (Or.inl ⟨by rfl, ?_⟩) hHeld ?_ ?_
          rotate_left
          · intro w' s0
            have e0 := fr1 _ (HBj.out.trans (s0.mono hle))
            go_simp
            with_reducible rfl
          rotate_left
          · simp only [Act.put, List.setIfInBounds_toArray, List.set_cons_zero, List.set_cons_succ, i64_w, i32_w]
            rfl
          refine pure_ (i := 6) (N := some 62) (v := ?_) (a' := ?_) #[true, true, true, true, true, true, true, false, true, false, true, false, false, true, false, false, false, false, false, false] rfl rfl (by kernel_rfl) (fun _ _ _ h => h) (Or.inl ⟨by rfl, ?_⟩) ?_ ?_
          rotate_left
          · intro w'
            go_simp
            with_reducible rfl
          rotate_left
          · simp only [Act.put, List.setIfInBounds_toArray, List.set_cons_zero, List.set_cons_succ, i64_w, i32_w]
            rfl
          refine take_ (i := 7) (N := some 63) (v := ?_) (a' := ?_) #[true, true, true, true, true, true, true, true, true, false, true, false, false, true, false, false, false, false, false, false] rfl rfl (by kernel_rfl) (fun _ _ _ h => h) (Or.inl ⟨by rfl, ?_⟩) hHeld ?_ ?_
          rotate_left
          · intro w' s0
            have e0 := fe10 _ (HBj.out.trans (s0.mono hle))
            have e1 := fe11 _ (HBj.out.trans (s0.mono hle))
            have e2 := fe12 _ (HBj.out.trans (s0.mono hle))
            have e3 := fe13 _ (HBj.out.trans (s0.mono hle))
            go_simp
            with_reducible rfl
          rotate_left
          · simp only [Act.put, List.setIfInBounds_toArray, List.set_cons_zero, List.set_cons_succ, i64_w, i32_w]
            rfl
          refine take_ (i := 9) (N := some 65) (v := ?_) (a' := ?_) #[true, true, true, true, true, true, true, true, true, true, true, false, false, true, false, false, false, false, false, false] rfl rfl (by kernel_rfl) (fun _ _ _ h => h) (Or.inl ⟨by rfl, ?_⟩) hHeld ?_ ?_
          rotate_left
          · intro w' s0
            have e0 := f3b _ (HBj.out.trans (s0.mono hle))
            go_simp
            with_reducible rfl
          rotate_left
          · simp only [Act.put, List.setIfInBounds_toArray, List.set_cons_zero, List.set_cons_succ, i64_w, i32_w]
            rfl
          refine pure_ (i := 11) (N := some 67) (v := ?_) (a' := ?_) #[true, true, true, true, true, true, true, true, true, true, true, true, false, true, false, false, false, false, false, false] rfl rfl (by kernel_rfl) (fun _ _ _ h => h) (Or.inl ⟨by rfl, ?_⟩) ?_ ?_
          rotate_left
          · intro w'
            go_simp
            with_reducible rfl
          rotate_left
          · simp only [Act.put, List.setIfInBounds_toArray, List.set_cons_zero, List.set_cons_succ, i64_w, i32_w]
            rfl
          refine take_ (i := 12) (N := some 68) (v := ?_) (a' := ?_) #[true, true, true, true, true, true, true, true, true, true, true, true, true, true, false, false, false, false, false, false] rfl rfl (by kernel_rfl) (fun _ _ _ h => h) (Or.inl ⟨by rfl, ?_⟩) hHeld ?_ ?_
          rotate_left
          · intro w' s0
            have e0 := fr2 _ (HBj.out.trans (s0.mono hle))
            go_simp
            with_reducible rfl
          rotate_left
          · simp only [Act.put, List.setIfInBounds_toArray, List.set_cons_zero, List.set_cons_succ, i64_w, i32_w]
            rfl
          refine pure_ (i := 14) (N := some 70) (v := ?_) (a' := ?_) #[true, true, true, true, true, true, true, true, true, true, true, true, true, true, true, false, false, false, false, false] rfl rfl (by kernel_rfl) (fun _ _ _ h => h) (Or.inl ⟨by rfl, ?_⟩) ?_ ?_
          rotate_left
          · intro w'
            go_simp
            with_reducible rfl
          rotate_left
          · simp only [Act.put, List.setIfInBounds_toArray, List.set_cons_zero, List.set_cons_succ, i64_w, i32_w]
            rfl
          refine take_ (i := 15) (N := some 71) (v := ?_) (a' := ?_) #[true, true, true, true, true, true, true, true, true, true, true, true, true, true, true, true, false, false, false, false] rfl rfl (by kernel_rfl) (fun _ _ _ h => h) (Or.inl ⟨by rfl, ?_⟩) hHeld ?_ ?_
          rotate_left
          · intro w' s0
            have e0 := fe20 _ (HBj.out.trans (s0.mono hle))
            have e1 := fe21 _ (HBj.out.trans (s0.mono hle))
            have e2 := fe22 _ (HBj.out.trans (s0.mono hle))
            have e3 := fe23 _ (HBj.out.trans (s0.mono hle))
            go_simp
            with_reducible rfl
          rotate_left
          · simp only [Act.put, List.setIfInBounds_toArray, List.set_cons_zero, List.set_cons_succ, i64_w, i32_w]
            rfl
          obtain ⟨W0, hW0⟩ : ∃ W', Aside0 (W' = wC.drew) := ⟨_, ⟨rfl⟩⟩
          rw [← hW0.out] at hHeld ⊢
          refine join_ (σ := Nat × Nat) 2 #[true, true, true, true, true, true, true, true, true, true, true, true, true, true, true, true, true, true, false, false] (fun s => [(7, .pointer (some ⟨s.1, 0, none⟩)), (8, .pointer (some ⟨s.2, 0, none⟩))]) (fun s w' => Below wC.heap.size wC w' ∧ wC.heap.size ≤ s.1 ∧ wC.heap.size ≤ s.2 ∧ s.1 ≠ s.2 ∧ w'.heap[s.1]? = some (.cells #[.int .i64 0, .float .f64 0, .string ⟨#[]⟩, .slice none 0 0] 30 (0, 0)) ∧ w'.heap[s.2]? = some (.cells #[.int .i64 0, .float .f64 0, .string ⟨#[]⟩, .slice none 0 0] 30 (0, 0))) ?_ ?_
          rotate_left
          · intro hCont
            refine two_ (i := 16) (j := 17) (Ni := some 7) (Nj := some 8) #[true, true, true, true, true, true, true, true, true, true, true, true, true, true, true, true, true, false, false, false] #[true, true, true, true, true, true, true, true, true, true, true, true, true, true, true, true, false, true, false, false] rfl rfl rfl rfl (by kernel_rfl) (by decide) (by decide) (fun K hK => ?_) (fun K hK => ?_)
            · skip
              refine value_ (w1 := ?_) (v := ?_) (by rfl) rfl ?_ ?_
              rotate_left 2
              · go_simp
                constructor
                · rfl
                · rfl
              obtain ⟨W1, hW1⟩ : ∃ W', Aside0 (W' = W0.alloc (Obj.cells #[.int .i64 0, .float .f64 0, .string ⟨#[]⟩, .slice none 0 0] 30)) := ⟨_, ⟨rfl⟩⟩
              rw [← hW1.out]
              have hb1 : Below W0.heap.size W0 W1 := by rw [hW1.out]; exact (Below.refl _ _).alloc (Nat.le_refl _) _
              have H16 := Aside0.mk (show W1.heap[W0.heap.size]? = some (.cells #[.int .i64 0, .float .f64 0, .string ⟨#[]⟩, .slice none 0 0] 30 (0, 0)) by rw [hW1.out]; exact heap_alloc_new _ _)
              have HG16 := Aside0.mk hHeld.size
              have HN := Aside0.mk (show W0.heap.size < W1.heap.size by rw [hW1.out]; simp)
              refine hK.out _ _ ((below_step hHeld hb1)) (fun hHeld => ?_)
              clear hK K
              refine norm_ (a' := ?_) ?_ ?_
              rotate_left
              · show Act.put _ (some 7) _ = _
                simp only [Act.put, List.setIfInBounds_toArray, List.set_cons_zero, List.set_cons_succ, i64_w, i32_w]
                rfl
              refine one_ (i := 17) (N := some 8) #[true, true, true, true, true, true, true, true, true, true, true, true, true, true, true, true, true, true, false, false] rfl rfl (by kernel_rfl) (by decide) (fun K hK => ?_)
              refine value_ (w1 := ?_) (v := ?_) (by rfl) rfl ?_ ?_
              rotate_left 2
              · go_simp
                constructor
                · rfl
                · rfl
              obtain ⟨W2, hW2⟩ : ∃ W', Aside0 (W' = W1.alloc (Obj.cells #[.int .i64 0, .float .f64 0, .string ⟨#[]⟩, .slice none 0 0] 30)) := ⟨_, ⟨rfl⟩⟩
              rw [← hW2.out]
              have hb2 : Below W1.heap.size W1 W2 := by rw [hW2.out]; exact (Below.refl _ _).alloc (Nat.le_refl _) _
              replace H16 := Aside0.mk (blk_below H16.out hb2)
              have H17 := Aside0.mk (show W2.heap[W1.heap.size]? = some (.cells #[.int .i64 0, .float .f64 0, .string ⟨#[]⟩, .slice none 0 0] 30 (0, 0)) by rw [hW2.out]; exact heap_alloc_new _ _)
              have HG17 := Aside0.mk hHeld.size
              refine hK.out _ _ ((below_step hHeld hb2)) (fun hHeld => ?_)
              clear hK K
              refine norm_ (a' := ?_) ?_ ?_
              rotate_left
              · show Act.put _ (some 8) _ = _
                simp only [Act.put, List.setIfInBounds_toArray, List.set_cons_zero, List.set_cons_succ, i64_w, i32_w]
                rfl
              exact norm_ (by simp only [putAll, Act.put, List.setIfInBounds_toArray, List.set_cons_zero, List.set_cons_succ]) (hCont (W0.heap.size, W1.heap.size) _ ⟨hHeld, HG16.out, HG17.out, by have := HN.out; show W0.heap.size ≠ W1.heap.size; omega, H16.out, H17.out⟩)
            · skip
              refine value_ (w1 := ?_) (v := ?_) (by rfl) rfl ?_ ?_
              rotate_left 2
              · go_simp
                constructor
                · rfl
                · rfl
              obtain ⟨W1, hW1⟩ : ∃ W', Aside0 (W' = W0.alloc (Obj.cells #[.int .i64 0, .float .f64 0, .string ⟨#[]⟩, .slice none 0 0] 30)) := ⟨_, ⟨rfl⟩⟩
              rw [← hW1.out]
              have hb1 : Below W0.heap.size W0 W1 := by rw [hW1.out]; exact (Below.refl _ _).alloc (Nat.le_refl _) _
              have H17 := Aside0.mk (show W1.heap[W0.heap.size]? = some (.cells #[.int .i64 0, .float .f64 0, .string ⟨#[]⟩, .slice none 0 0] 30 (0, 0)) by rw [hW1.out]; exact heap_alloc_new _ _)
              have HG17 := Aside0.mk hHeld.size
              have HN := Aside0.mk (show W0.heap.size < W1.heap.size by rw [hW1.out]; simp)
              refine hK.out _ _ ((below_step hHeld hb1)) (fun hHeld => ?_)
              clear hK K
              refine norm_ (a' := ?_) ?_ ?_
              rotate_left
              · show Act.put _ (some 8) _ = _
                simp only [Act.put, List.setIfInBounds_toArray, List.set_cons_zero, List.set_cons_succ, i64_w, i32_w]
                rfl
              refine one_ (i := 16) (N := some 7) #[true, true, true, true, true, true, true, true, true, true, true, true, true, true, true, true, true, true, false, false] rfl rfl (by kernel_rfl) (by decide) (fun K hK => ?_)
              refine value_ (w1 := ?_) (v := ?_) (by rfl) rfl ?_ ?_
              rotate_left 2
              · go_simp
                constructor
                · rfl
                · rfl
              obtain ⟨W2, hW2⟩ : ∃ W', Aside0 (W' = W1.alloc (Obj.cells #[.int .i64 0, .float .f64 0, .string ⟨#[]⟩, .slice none 0 0] 30)) := ⟨_, ⟨rfl⟩⟩
              rw [← hW2.out]
              have hb2 : Below W1.heap.size W1 W2 := by rw [hW2.out]; exact (Below.refl _ _).alloc (Nat.le_refl _) _
              replace H17 := Aside0.mk (blk_below H17.out hb2)
              have H16 := Aside0.mk (show W2.heap[W1.heap.size]? = some (.cells #[.int .i64 0, .float .f64 0, .string ⟨#[]⟩, .slice none 0 0] 30 (0, 0)) by rw [hW2.out]; exact heap_alloc_new _ _)
              have HG16 := Aside0.mk hHeld.size
              refine hK.out _ _ ((below_step hHeld hb2)) (fun hHeld => ?_)
              clear hK K
              refine norm_ (a' := ?_) ?_ ?_
              rotate_left
              · show Act.put _ (some 7) _ = _
                simp only [Act.put, List.setIfInBounds_toArray, List.set_cons_zero, List.set_cons_succ, i64_w, i32_w]
                rfl
              exact norm_ (by simp only [putAll, Act.put, List.setIfInBounds_toArray, List.set_cons_zero, List.set_cons_succ]) (hCont (W1.heap.size, W0.heap.size) _ ⟨hHeld, HG16.out, HG17.out, by have := HN.out; show W1.heap.size ≠ W0.heap.size; omega, H16.out, H17.out⟩)
          rintro ⟨g7, g8⟩ w' ⟨hHeld, hG7, hG8, hne78, h7, h8⟩
          simp only at hG7 hG8 hne78 h7 h8
          refine norm_ (a' := ?_) ?_ ?_
          rotate_left
          · simp only [putAll, Act.put, List.setIfInBounds_toArray, List.set_cons_zero, List.set_cons_succ]
            rfl
          refine one_ (i := 18) (N := none) #[true, true, true, true, true, true, true, true, true, true, true, true, true, true, true, true, true, true, true, false] rfl rfl (by kernel_rfl) (by decide) (fun K hK => ?_)
          have hth7 : w'.there g7 0 4 := fun q hq => ⟨by rw [blk_cell h7 (0 + q)]; simp; omega, blk_frozen h7 _⟩
          refine store_mid_step 30 (.tmp 7) (.tmp 63) (by rfl) rfl rfl g7 0 #[.int .i64 1, fl x, .string ⟨#[]⟩, .slice Z1 zn1 zc1] rfl rfl hth7 (by kernel_rfl) (by simp [Value.oneCell']) ?_
          refine hK.out _ _ ((below_setCells hG7 _ _ _ _ hHeld)) (fun hHeld => ?_)
          clear hK K
          refine last_ (i := 19) (N := none) #[true, true, true, true, true, true, true, true, true, true, true, true, true, true, true, true, true, true, true, true] rfl rfl (by kernel_rfl) (by decide) (fun K hK => ?_)
          obtain ⟨wE, hwE⟩ : ∃ W', Aside0 (W' = w'.setCells g7 0 [.int .i64 1, fl x, .string ⟨#[]⟩, .slice Z1 zn1 zc1]) := ⟨_, ⟨rfl⟩⟩
          rw [← hwE.out] at hHeld
          have h8' : wE.heap[g8]? = some (.cells #[.int .i64 0, .float .f64 0, .string ⟨#[]⟩, .slice none 0 0] 30 (0, 0)) := by rw [hwE.out]; exact (setCells_other _ _ _ _ _ (Ne.symm hne78)).trans h8
          have h7' : wE.heap[g7]? = some (.cells #[.int .i64 1, fl x, .string ⟨#[]⟩, .slice Z1 zn1 zc1] 30 (0, 0)) := by
            rw [hwE.out]
            have := heap_setCells g7 30 [.int .i64 1, fl x, .string ⟨#[]⟩, .slice Z1 zn1 zc1] 0 [.int .i64 0, .float .f64 0, .string ⟨#[]⟩, .slice none 0 0] w' h7 (by simp)
            simpa using this
          show if Region.wanted _ (yielded _ _) = true then Oper.wp _ _ _ (w'.setCells g7 0 [.int .i64 1, fl x, .string ⟨#[]⟩, .slice Z1 zn1 zc1]) _ _ else _
          rw [← hwE.out]
          have hth8 : wE.there g8 0 4 := fun q hq => ⟨by rw [blk_cell h8' (0 + q)]; simp; omega, blk_frozen h8' _⟩
          refine store_mid_step 30 (.tmp 8) (.tmp 71) (by rfl) rfl rfl g8 0 #[.int .i64 1, fl x, .string ⟨#[]⟩, .slice Z2 zn2 zc2] rfl rfl hth8 (by kernel_rfl) (by simp [Value.oneCell']) ?_
          refine hK.out _ _ ?_
          clear hK K
          refine done_ (by kernel_rfl) ?_
          obtain ⟨wF, hwF⟩ : ∃ W', Aside0 (W' = wE.setCells g8 0 (#[.int .i64 1, fl x, .string ⟨#[]⟩, .slice Z2 zn2 zc2] : Array Value).toList) := ⟨_, ⟨rfl⟩⟩
          rw [← hwF.out]
          have S7 : wF.heap[g7]? = some (.cells #[.int .i64 1, fl x, .string ⟨#[]⟩, .slice Z1 zn1 zc1] 30 (0, 0)) := by rw [hwF.out]; exact (setCells_other _ _ _ _ _ hne78).trans h7'
          have S8 : wF.heap[g8]? = some (.cells #[.int .i64 1, fl x, .string ⟨#[]⟩, .slice Z2 zn2 zc2] 30 (0, 0)) := by
            rw [hwF.out]
            have := heap_setCells g8 30 [.int .i64 1, fl x, .string ⟨#[]⟩, .slice Z2 zn2 zc2] 0 [.int .i64 0, .float .f64 0, .string ⟨#[]⟩, .slice none 0 0] wE h8' (by simp)
            simpa using this
          have hBF := Aside0.mk (show Below wC.heap.size wC wF by rw [hwF.out]; exact below_setCells hG8 _ _ _ _ hHeld)
          have m70 : wF.cell? ⟨g7, 0, none⟩ = some (.int .i64 1) := blk_cell S7 0
          have m71 : wF.cell? ⟨g7, 1, none⟩ = some (fl x) := blk_cell S7 1
          have m80 : wF.cell? ⟨g8, 0, none⟩ = some (.int .i64 1) := blk_cell S8 0
          have m81 : wF.cell? ⟨g8, 1, none⟩ = some (fl x) := blk_cell S8 1
          clear hwF hwE h7 h8 h7' h8' hth8 hth7 hHeld hG7 hG8 hne78 hW0 S7 S8
          go_wp2
          go_roundg (gk - 1)
          case measure => have := HKj.out; omega
          case rel => exact ⟨j + 1, by simp, ⟨by have := HKj.out; omega⟩, ⟨HBj.out.trans (hBF.out.mono hle)⟩⟩
        · have d2 : decide ((j : Int) < (c : Int)) = false := decide_eq_false (by omega)
          obtain rfl : c = j := by have := HKj.out; omega
          go_wp2
          go_roundg (gi - 1)
          case measure => have := HKi.out; have := hgi.out; omega
          case rel => exact ⟨i + 1, by simp, ⟨by have := HKi.out; have := hgi.out; omega⟩, HBj⟩
    · have d1 : decide ((i : Int) < (r : Int)) = false := decide_eq_false (by omega)
      obtain rfl : r = i := by have := HKi.out; omega
      go_wp2
      go_ret
      exact ⟨rfl, below_step hb1.out HBi.out⟩
end Go.Proofs.Ytedbbekfpficpaa
