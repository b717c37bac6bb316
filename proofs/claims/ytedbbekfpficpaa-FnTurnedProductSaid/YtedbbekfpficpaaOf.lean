import Derived.Test.YtedbbekfpficpaaHelp
set_option linter.unusedSimpArgs false
set_option linter.unusedVariables false
namespace Go.Proofs.Ytedbbekfpficpaa
open Go.RowKit Go.Proofs.YtedbbekfpficpaaW.PrintWords Go.Proofs.YtedbbekfpficpaaW.PrintLast Fl
theorem info34 : (Try.prog.info? 34).map (fun i => (i.zero, i.size, i.bytes)) = some (some (.slice none 0 0), 1, 24) := by kernel_rfl
theorem Below.setRow {B : Nat} {a w : World} (h : Below B a w) {g : Nat} (hp : B ≤ g) (cs : Array Value) : Below B a (w.setRow g cs) :=
  ⟨h.os, h.tape, h.output, by rw [setRow_size]; exact h.size, fun k hk => (setRow_other w g k cs (by omega)).trans (h.block k hk)⟩
theorem blk_of_below {B : Nat} {w w1 : World} {g : Nat} {o : Obj} (hb : w.heap[g]? = some o) (h : Below B w w1) (hg : g < B) : w1.heap[g]? = some o := (h.block g hg).trans hb
attribute [local go_sem] run_store_float
set_option maxHeartbeats 1000000 in
set_option maxRecDepth 100000 in
theorem ofTab {α β : Type} (d : Kd α) (d' : Kd β) (f : α → β) (rows : List (List α)) (hlen : rows.length ≤ 100)
    (H : ∀ r ∈ rows, ∀ A c w, d.C w A r.length r → Calls Try.prog 18 #[.slice A r.length c] w (MadeRow d' 30 (r.map f) w)) (A : Option Addr) (c : Nat) (w : World) (hC : (Kd.slice 25 d).C w A rows.length rows) :
    Calls Try.prog 8 #[.agg #[.int .i64 5, .int .i64 0, .int .i64 0, .string ⟨#[]⟩, .slice A rows.length c]] w (Made (kI d') (.tab, rows.map (·.map f)) w) := by
  have HC := Aside0.mk hC
  have HH := Aside0.mk H
  clear H hC
  have hl1 : (rows.length : Int) ≤ 100 := by omega
  go_enter Try.func8, Try.ntmps8
  go_wp2
  go_loopg [4] rows.length (fun kq v4 w' => ∃ (i : Nat) (rv : Value), v4 = .int .i64 i ∧ Aside0 (i + kq = rows.length) ∧ Aside0 (w'.heap[w.heap.size + 1 + 1]? = some (.cells #[.int .i64 5, .float .f64 0, .string ⟨#[]⟩, rv] 30 (0, 0))) ∧
    Aside0 (w'.heap[w.heap.size]? = some (.cells #[.int .i64 5, .int .i64 0, .int .i64 0, .string ⟨#[]⟩, .slice A rows.length c] 25 (0, 0))) ∧ Aside0 (w'.heap[w.heap.size + 1]? = some (.cells #[.int .i64 0, .float .f64 0, .string ⟨#[]⟩, .slice none 0 0] 30 (0, 0))) ∧
    Aside0 ((Kd.slice 30 d').R 34 w' w.heap.size (fun k => w.heap.size + 1 + 1 + 1 ≤ k) rv ((rows.take i).map (·.map f))) ∧ Aside0 (w.heap.size + 1 + 1 + 1 ≤ w'.heap.size) ∧ Aside0 (Below w.heap.size w w'))
  case atStart =>
    refine ⟨0, _, rfl, ⟨by omega⟩, ⟨?_⟩, ⟨?_⟩, ⟨?_⟩, ⟨by simpa using Kd.R_nil _ _ _ _ _⟩, ⟨by simp⟩, ⟨?_⟩⟩
    · repeat (first | (refine blk_at ?_; simp; done) | refine blk_alloc ?_ _)
    · repeat (first | (refine blk_at ?_; simp; done) | refine blk_alloc ?_ _)
    · repeat (first | (refine blk_at ?_; simp; done) | refine blk_alloc ?_ _)
    · repeat (first | exact Below.refl _ _ | refine Below.alloc ?_ (by simp <;> omega) _)
  case round =>
    obtain ⟨i, rv, rfl, HK, HG, HX, HR, HO, HS, HB⟩ := hrel
    have kx : wr.cell? ⟨w.heap.size, 4, none⟩ = some (.slice A rows.length c) := blk_cell HX.out 4
    by_cases hi : i < rows.length
    · have c0 : decide ((i : Int) < (rows.length : Int)) = true := decide_eq_true (by omega)
      have hCw := HC.out
      obtain ⟨ad, cs, rfl, hcl, ⟨A', c', rfl, hl', hK⟩, hcell⟩ := Kd.C_get hCw (rows[i]) (i : Int) (by omega) (by omega)
      rw [getD_nat rows i hi] at hK hcell
      have kr : ∀ w', Below w.heap.size w w' → w'.cell? (ad.add i) = some (.slice A' rows[i].length c') := fun w' h => pw_cell_below h (by simpa [Kd.slice] using hcell 0 _ rfl)
      have kr1 : ∀ w', Below (w.heap.size + 1 + 1) wr w' → w'.cell? (ad.add i) = some (.slice A' rows[i].length c') := fun w' h => kr w' (HB.out.trans (h.mono (by omega)))
      have kx1 : ∀ w', Below (w.heap.size + 1 + 1) wr w' → w'.cell? ⟨w.heap.size, 4, none⟩ = some (.slice (some ad) rows.length c) := fun w' h => (h.cell (show w.heap.size < w.heap.size + 1 + 1 by omega)).trans kx
      have kg : wr.cell? ⟨w.heap.size + 1 + 1, 3, none⟩ = some rv := blk_cell HG.out 3
      clear kr
      have hKd := Aside0.mk hK
      clear hK
      have hm := Aside0.mk (HH.out rows[i] (List.getElem_mem hi) A' c')
      clear hCw hcell hcl
      have b1 : (0 : Int) ≤ (i : Int) := by omega
      have b2 : (i : Int) < (rows.length : Int) := by omega
      go_wp2
      refine start_ (n := 12) (S := fun w' => Below (w.heap.size + 1 + 1) wr w' ∧ w'.cell? ⟨w.heap.size + 1 + 1, 3, none⟩ = some rv) (ds := [11]) #[false, false, false, false, false, false, false, false, false, false, false, false] (by kernel_rfl) rfl rfl ⟨(Below.refl _ _).drew, kg⟩ (fun hHeld => ?_)
      refine pure_ (i := 0) (N := some 37) (v := ?_) (a' := ?_) #[true, false, false, false, false, false, false, false, false, false, false, false] rfl rfl (by kernel_rfl) (fun _ _ _ h => h) (Or.inl ⟨by rfl, ?_⟩) ?_ ?_
      rotate_left
      · intro w'
        go_simp
        with_reducible rfl
      rotate_left
      · simp only [Act.put, List.setIfInBounds_toArray, List.set_cons_zero, List.set_cons_succ, i64_w, i32_w]
        rfl
      refine pure_ (i := 2) (N := some 39) (v := ?_) (a' := ?_) #[true, false, true, false, false, false, false, false, false, false, false, false] rfl rfl (by kernel_rfl) (fun _ _ _ h => h) (Or.inl ⟨by rfl, ?_⟩) ?_ ?_
      rotate_left
      · intro w'
        go_simp
        with_reducible rfl
      rotate_left
      · simp only [Act.put, List.setIfInBounds_toArray, List.set_cons_zero, List.set_cons_succ, i64_w, i32_w]
        rfl
      refine pure_ (i := 4) (N := some 41) (v := ?_) (a' := ?_) #[true, false, true, false, true, false, false, false, false, false, false, false] rfl rfl (by kernel_rfl) (fun _ _ _ h => h) (Or.inl ⟨by rfl, ?_⟩) ?_ ?_
      rotate_left
      · intro w'
        go_simp
        with_reducible rfl
      rotate_left
      · simp only [Act.put, List.setIfInBounds_toArray, List.set_cons_zero, List.set_cons_succ, i64_w, i32_w]
        rfl
      refine take_ (i := 1) (N := some 38) (v := ?_) (a' := ?_) #[true, true, true, false, true, false, false, false, false, false, false, false] rfl rfl (by kernel_rfl) (fun _ _ _ h => h) (Or.inl ⟨by rfl, ?_⟩) hHeld ?_ ?_
      rotate_left
      · rintro w' ⟨s0, s1⟩
        go_simp
        with_reducible rfl
      rotate_left
      · simp only [Act.put, List.setIfInBounds_toArray, List.set_cons_zero, List.set_cons_succ, i64_w, i32_w]
        rfl
      refine take_ (i := 3) (N := some 40) (v := ?_) (a' := ?_) #[true, true, true, true, true, false, false, false, false, false, false, false] rfl rfl (by kernel_rfl) (fun _ _ _ h => h) (Or.inl ⟨by rfl, ?_⟩) hHeld ?_ ?_
      rotate_left
      · rintro w' ⟨s0, s1⟩
        go_simp
        with_reducible rfl
      rotate_left
      · simp only [Act.put, List.setIfInBounds_toArray, List.set_cons_zero, List.set_cons_succ, i64_w, i32_w]
        rfl
      refine pure_ (i := 5) (N := some 42) (v := ?_) (a' := ?_) #[true, true, true, true, true, true, false, false, false, false, false, false] rfl rfl (by kernel_rfl) (fun _ _ _ h => h) (Or.inl ⟨by rfl, ?_⟩) ?_ ?_
      rotate_left
      · intro w'
        go_simp
        with_reducible rfl
      rotate_left
      · simp only [Act.put, List.setIfInBounds_toArray, List.set_cons_zero, List.set_cons_succ, i64_w, i32_w]
        rfl
      refine take_ (i := 6) (N := some 43) (v := ?_) (a' := ?_) #[true, true, true, true, true, true, true, false, false, false, false, false] rfl rfl (by kernel_rfl) (fun _ _ _ h => h) (Or.inl ⟨by rfl, ?_⟩) hHeld ?_ ?_
      rotate_left
      · rintro w' ⟨s0, s1⟩
        go_simp
        with_reducible rfl
      rotate_left
      · simp only [Act.put, List.setIfInBounds_toArray, List.set_cons_zero, List.set_cons_succ, i64_w, i32_w]
        rfl
      refine one_ (i := 7) (N := some 44) #[true, true, true, true, true, true, true, true, false, false, false, false] rfl rfl (by kernel_rfl) (by decide) (fun K hK => ?_)
      refine goes_ Try.func18 (by kernel_rfl) rfl #[.slice A' rows[i].length c'] (by rfl) rfl rfl (by simp only [List.map_toArray, List.map_cons, List.map_nil]; rfl) ?_
      with_reducible refine (hm.out _ (Kd.C_below hKd.out (HB.out.trans (Below.mono hHeld.1 (by omega))))).mono ?_
      rintro e w1 ⟨v, rfl, hM, hb1⟩
      refine ⟨_, rfl, ?_⟩
      have kg1 := pw_cell_below hb1 hHeld.2
      have hb2 := below_step (w := wr) (Below.refl _ _).drew hb1
      have hz1 : w.heap.size + 1 + 1 ≤ w1.heap.size := by have := HS.out; have := hb2.size; omega
      have hS1 : Below (w.heap.size + 1 + 1) wr w1 := hb2.mono (by have := HS.out; omega)
      obtain ⟨A1, n1, c1, rfl⟩ := R_shape hM
      have hM1 := Aside0.mk (show (Kd.slice 30 d').M w1 wr.heap.size (fun _ => True) (rows[i].map f) [.slice A1 n1 c1] from ⟨_, rfl, hM⟩)
      clear hM hb1
      refine hK.out _ _ ⟨hS1, kg1⟩ (fun hHeld => ?_)
      clear hK K
      refine norm_ (a' := ?_) ?_ ?_
      rotate_left
      · show Act.put _ (some 44) _ = _
        simp only [Act.put, List.setIfInBounds_toArray, List.set_cons_zero, List.set_cons_succ, i64_w, i32_w]
        rfl
      refine one_ (i := 8) (N := some 45) #[true, true, true, true, true, true, true, true, true, false, false, false] rfl rfl (by kernel_rfl) (by decide) (fun K hK => ?_)
      refine value_ (w1 := ?_) (v := ?_) (by rfl) rfl ?_ ?_
      rotate_left 2
      · go_simp
        constructor
        · rfl
        · rfl
      refine hK.out _ _ ⟨(Below.alloc hS1 hz1 _), (pw_cell_below ((Below.refl _ _).alloc (Nat.le_refl _) _) kg1)⟩ (fun hHeld => ?_)
      clear hK K
      refine norm_ (a' := ?_) ?_ ?_
      rotate_left
      · show Act.put _ (some 45) _ = _
        simp only [Act.put, List.setIfInBounds_toArray, List.set_cons_zero, List.set_cons_succ, i64_w, i32_w]
        rfl
      refine one_ (i := 9) (N := some 46) #[true, true, true, true, true, true, true, true, true, true, false, false] rfl rfl (by kernel_rfl) (by decide) (fun K hK => ?_)
      refine appendMade_step (Kd.slice 30 d') (w0 := w) (wr := wr) (B := w.heap.size) (by rfl) (.tmp 38) (.tmp 45) 28 34 _ 24 rfl Try.underlying28 info34 rfl Nat.zero_lt_one (by decide) rv ((rows.take i).map (·.map f)) (rows[i].map f) _ _ rfl rfl hM1.out HO.out HB.out (by have := HS.out; omega) hb2 (fun k hk => by have := HS.out; omega) ?aL ?_
      case aL => rw [List.length_map, List.length_take]; omega
      intro v1 w2 ho hb hg hr
      obtain ⟨A2, n2, c2, rfl⟩ := R_shape ho
      have hn3 : ∀ k, k < w.heap.size + 1 + 1 + 1 → some k ≠ rv.ownBlock := fun k hk he => by have := (hr k he.symm).2; omega
      have hG2 := (hg.block _ (blk_lt HG.out) (hn3 _ (by omega))).trans HG.out
      have hX2 := (hg.block _ (blk_lt HX.out) (hn3 _ (by omega))).trans HX.out
      have hR2 := (hg.block _ (blk_lt HR.out) (hn3 _ (by omega))).trans HR.out
      have kg3 := blk_cell hG2 3
      have kf3 := blk_frozen hG2 3
      have hS2 : Below (w.heap.size + 1 + 1) wr w2 := (Below.refl _ _).grown hg (by have := HS.out; omega) (fun k hk => by have := (hr k hk).2; omega)
      refine hK.out _ _ ⟨hS2, kg3⟩ (fun hHeld => ?_)
      clear hK K
      refine norm_ (a' := ?_) ?_ ?_
      rotate_left
      · show Act.put _ (some 46) _ = _
        simp only [Act.put, List.setIfInBounds_toArray, List.set_cons_zero, List.set_cons_succ, i64_w, i32_w]
        rfl
      refine pure_ (i := 10) (N := some 47) (v := ?_) (a' := ?_) #[true, true, true, true, true, true, true, true, true, true, true, false] rfl rfl (by kernel_rfl) (fun _ _ _ h => h) (Or.inl ⟨by rfl, ?_⟩) ?_ ?_
      rotate_left
      · intro w'
        go_simp
        with_reducible rfl
      rotate_left
      · simp only [Act.put, List.setIfInBounds_toArray, List.set_cons_zero, List.set_cons_succ, i64_w, i32_w]
        rfl
      refine last_ (i := 11) (N := none) #[true, true, true, true, true, true, true, true, true, true, true, true] rfl rfl (by kernel_rfl) (by decide) (fun K hK => ?_)
      refine skip_ (w1 := ?_) (by rfl) rfl ?_ ?_
      rotate_left
      · go_simp
        rfl
      refine hK.out _ _ ?_
      clear hK K
      refine done_ (by kernel_rfl) ?_
      go_wp2
      go_roundg (gk - 1)
      case measure => have := HK.out; omega
      case rel =>
        refine ⟨i + 1, _, by simp, ⟨by have := HK.out; omega⟩, ⟨blk_set hG2 3 _⟩, ⟨blk_far hX2 (show w.heap.size ≠ w.heap.size + 1 + 1 by omega) _⟩, ⟨blk_far hR2 (show w.heap.size + 1 ≠ w.heap.size + 1 + 1 by omega) _⟩, ⟨?_⟩, ⟨?_⟩, ⟨Below.setCell hb (show w.heap.size ≤ w.heap.size + 1 + 1 by omega) _⟩⟩
        · rw [take_map _ _ _ hi]
          exact Kd.R_far ho (fun k hk => show k ≠ w.heap.size + 1 + 1 by omega) _
        · have := HS.out
          have := hg.size
          simp
          omega
    · have c0 : decide ((i : Int) < (rows.length : Int)) = false := decide_eq_false (by omega)
      have h1 : rows.take i = rows := List.take_of_length_le (by omega)
      rw [h1] at HO
      obtain ⟨A2, n2, c2, rfl⟩ := R_shape HO.out
      go_wp2_with (first
        | (refine wpList_load_row rfl 30 (.tmp 3) rfl _ rfl 30 _ (0, 0) _ HG.out Try.underlying30 rfl (by kernel_rfl) ?_)
        | (refine wpList_store_row rfl 30 (.tmp 2) (.tmp 48) rfl _ _ rfl rfl 30 _ HR.out (by kernel_rfl) rfl (by first | rfl | decide | simp [Value.oneCell']) ?_))
      refine bodyPost_ret (results_cell_row rfl _ _ (w.heap.size + 1) 30 #[.int .i64 5, .float .f64 0, .string ⟨#[]⟩, .slice A2 n2 c2] (0, 0) _ rfl (setRow_heap _ _ _ _ _ _ HR.out) Try.underlying30 rfl (by kernel_rfl)) rfl ?_
      have hM := HO.out
      refine ⟨[.int .i64 5, .float .f64 0, .string ⟨#[]⟩, .slice A2 n2 c2], rfl, ?_, Below.setRow HB.out (by omega) _⟩
      refine ⟨[.int .i64 5, .float .f64 0, .string ⟨#[]⟩], [.slice A2 n2 c2], rfl, ?_, ⟨_, rfl, ?_⟩⟩
      · show _ = encI .tab
        rw [encI, fl, F_zero]
      · exact Kd.R_mono (Kd.R_step hM (fun k hk _ => setRow_other _ _ _ _ (by omega))) (fun _ _ => trivial)
end Go.Proofs.Ytedbbekfpficpaa
