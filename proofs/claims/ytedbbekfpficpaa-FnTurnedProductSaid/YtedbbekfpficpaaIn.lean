import Derived.Test.YtedbbekfpficpaaOf
set_option linter.unusedSimpArgs false
set_option linter.unusedVariables false
namespace Go.Proofs.Ytedbbekfpficpaa
open Go.RowKit Go.Proofs.YtedbbekfpficpaaW.PrintWords Go.Proofs.YtedbbekfpficpaaW.PrintLast Fl
theorem info48 : (Try.prog.info? 48).map (fun i => (i.zero, i.size, i.bytes)) = some (some (.slice none 0 0), 1, 24) := by kernel_rfl
theorem info46 : (Try.prog.info? 46).map (fun i => (i.zero, i.size, i.bytes)) = some (some (.agg #[.int .i64 0, .float .f64 0, .string ⟨#[]⟩, .slice none 0 0]), 4, 56) := by kernel_rfl
theorem encI_shape (h : Hd) : ∃ k x s, encI h = [.int .i64 k, .float .f64 x, .string s] := by cases h <;> exact ⟨_, _, _, rfl⟩
attribute [local go_sem] run_store_float
set_option maxHeartbeats 1000000 in
set_option maxRecDepth 100000 in
theorem in_ {α β : Type} (d : Kd α) (d' : Kd β) (f : α → β) (ps : List (Ob α)) (hlen : ps.length ≤ 100) (hlen2 : ∀ p ∈ ps, p.2.length ≤ 100)
    (H : ∀ p ∈ ps, ∀ r ∈ p.2, ∀ A c w, d.C w A r.length r → Calls Try.prog 17 #[.slice A r.length c] w (MadeRow d' 46 (r.map f) w)) (A : Option Addr) (c : Nat) (w : World) (hC : (kI d).C w A ps.length ps) :
    Calls Try.prog 17 #[.slice A ps.length c] w (MadeRow (kA d') 46 (ps.map (fun p => (p.1, p.2.map (·.map f)))) w) := by
  have HB := Aside0.mk (Below.refl w.heap.size w)
  have HC := Aside0.mk hC
  have HH := Aside0.mk H
  have HL := Aside0.mk hlen2
  clear H hC hlen2
  have hl1 : (ps.length : Int) ≤ 100 := by omega
  go_enter Try.func17, Try.ntmps17
  go_wp2
  go_loopg [3, 11] ps.length (fun kq v3 v11 w' => ∃ (i : Nat), v11 = .int .i64 i ∧ Aside0 (i + kq = ps.length) ∧ Aside0 ((kA d').R 46 w' w.heap.size (fun _ => True) v3 ((ps.take i).map (fun p => (p.1, p.2.map (·.map f))))) ∧ Aside0 (Below w.heap.size w w'))
  case atStart => exact ⟨0, rfl, ⟨by omega⟩, ⟨by simpa using Kd.R_nil _ _ _ _ _⟩, HB⟩
  case round =>
    clear HB
    obtain ⟨i, rfl, HK, HO, HB⟩ := hrel
    obtain ⟨wo, rfl⟩ : ∃ wo : World, wo = wr := ⟨_, rfl⟩
    obtain ⟨go, hgo⟩ : ∃ go : Nat, go = gk := ⟨_, rfl⟩
    have hgo := Aside0.mk hgo
    by_cases hi : i < ps.length
    · have c0 : decide ((i : Int) < (ps.length : Int)) = true := decide_eq_true (by omega)
      have c1 : (0 : Int) ≤ (i : Int) := by omega
      have c2 : (i : Int) < (ps.length : Int) := by omega
      obtain ⟨ad, cs, rfl, hcl, hKd, hcell⟩ := Kd.C_get (Kd.C_below HC.out HB.out) (ps[i]) (i : Int) c1 c2
      rw [getD_nat ps i hi] at hKd
      obtain ⟨hd, rows, hp⟩ : ∃ hd rows, ps[i] = (hd, rows) := ⟨_, _, rfl⟩
      rw [hp] at hKd
      obtain ⟨ca, cb, rfl, hca, A1, cc, rfl, hlr, hR⟩ := hKd
      obtain ⟨kk, xx, ss, hen⟩ := encI_shape hd
      have hca' : ca = [.int .i64 kk, .float .f64 xx, .string ss] := hca.trans hen
      subst hca'
      have hcell : ∀ j u, [Value.int .i64 kk, .float .f64 xx, .string ss, .slice A1 rows.length cc][j]? = some u → wo.cell? (ad.add (i * 4 + j)) = some u := fun j u hu => hcell j u hu
      have hcell := Aside0.mk hcell
      have hR := Aside0.mk hR
      have hmem : ps[i] ∈ ps := List.getElem_mem hi
      have hHr := HH.out _ hmem
      have hLr := HL.out _ hmem
      rw [hp] at hHr hLr
      have hHr := Aside0.mk hHr
      have hl2 : rows.length ≤ 100 := hLr
      have hl3 : (rows.length : Int) ≤ 100 := by omega
      have hen := Aside0.mk hen
      have hp := Aside0.mk hp
      clear hcl hmem hLr hca
      go_wp2_with (refine wpList_loadEl rfl 30 (.tmp 13) rfl ad (i * 4) rfl [.int .i64 kk, .float .f64 xx, .string ss, .slice A1 rows.length cc] _ hcell.out Try.underlying30 rfl (by kernel_rfl) ?_)
      go_loopg [25] rows.length (fun kq v25 w' => ∃ (j : Nat) (rv : Value), v25 = .int .i64 j ∧ Aside0 (j + kq = rows.length) ∧ Aside0 (w'.heap[wo.heap.size + 1]? = some (.cells #[.int .i64 kk, .float .f64 xx, .string ss, rv] 46 (0, 0))) ∧
        Aside0 ((Kd.slice 46 d').R 48 w' wo.heap.size (fun k => wo.heap.size + 1 + 1 ≤ k) rv ((rows.take j).map (·.map f))) ∧ Aside0 (wo.heap.size + 1 + 1 ≤ w'.heap.size) ∧ Aside0 (Below wo.heap.size wo w'))
      case atStart =>
        refine ⟨0, _, rfl, ⟨by omega⟩, ⟨?_⟩, ⟨by simpa using Kd.R_nil _ _ _ _ _⟩, ⟨by simp⟩, ⟨?_⟩⟩
        · repeat (first | (refine blk_at ?_; simp; done) | refine blk_alloc ?_ _)
        · repeat (first | exact Below.refl _ _ | refine Below.alloc ?_ (by simp <;> omega) _)
      case round =>
        obtain ⟨j, rv, rfl, HKi, HG, HOi, HSi, HBi⟩ := hrel
        by_cases hj : j < rows.length
        · have e0 : decide ((j : Int) < (rows.length : Int)) = true := decide_eq_true (by omega)
          have hRw := hR.out
          obtain ⟨ae, cs, rfl, hcl, ⟨A2, c2, rfl, hl', hKr⟩, hce⟩ := Kd.C_get hRw (rows[j]) (j : Int) (by omega) (by omega)
          rw [getD_nat rows j hj] at hKr hce
          have kr : wr.cell? (ae.add j) = some (.slice A2 rows[j].length c2) := pw_cell_below HBi.out (by simpa [Kd.slice] using hce 0 _ rfl)
          have kg : wr.cell? ⟨wo.heap.size + 1, 3, none⟩ = some rv := blk_cell HG.out 3
          have hKr := Aside0.mk hKr
          have hm := Aside0.mk (hHr.out rows[j] (List.getElem_mem hj) A2 c2)
          clear hRw hce hcl
          have b1 : (0 : Int) ≤ (j : Int) := by omega
          have b2 : (j : Int) < (rows.length : Int) := by omega
          go_wp2
          refine start_ (n := 8) (S := fun w' => Below (wo.heap.size + 1) wr w' ∧ w'.cell? ⟨wo.heap.size + 1, 3, none⟩ = some rv) (ds := [7]) #[false, false, false, false, false, false, false, false] (by kernel_rfl) rfl rfl ⟨(Below.refl _ _).drew, kg⟩ (fun hHeld => ?_)
          refine pure_ (i := 0) (N := some 29) (v := ?_) (a' := ?_) #[true, false, false, false, false, false, false, false] rfl rfl (by kernel_rfl) (fun _ _ _ h => h) (Or.inl ⟨by rfl, ?_⟩) ?_ ?_
          rotate_left
          · intro w'
            go_simp
            with_reducible rfl
          rotate_left
          · simp only [Act.put, List.setIfInBounds_toArray, List.set_cons_zero, List.set_cons_succ, i64_w, i32_w]
            rfl
          refine pure_ (i := 2) (N := some 31) (v := ?_) (a' := ?_) #[true, false, true, false, false, false, false, false] rfl rfl (by kernel_rfl) (fun _ _ _ h => h) (Or.inl ⟨by rfl, ?_⟩) ?_ ?_
          rotate_left
          · intro w'
            go_simp
            with_reducible rfl
          rotate_left
          · simp only [Act.put, List.setIfInBounds_toArray, List.set_cons_zero, List.set_cons_succ, i64_w, i32_w]
            rfl
          refine take_ (i := 1) (N := some 30) (v := ?_) (a' := ?_) #[true, true, true, false, false, false, false, false] rfl rfl (by kernel_rfl) (fun _ _ _ h => h) (Or.inl ⟨by rfl, ?_⟩) hHeld ?_ ?_
          rotate_left
          · rintro w' ⟨s0, s1⟩
            go_simp
            with_reducible rfl
          rotate_left
          · simp only [Act.put, List.setIfInBounds_toArray, List.set_cons_zero, List.set_cons_succ, i64_w, i32_w]
            rfl
          refine one_ (i := 3) (N := some 32) #[true, true, true, true, false, false, false, false] rfl rfl (by kernel_rfl) (by decide) (fun K hK => ?_)
          refine goes_ Try.func17 (by kernel_rfl) rfl #[.slice A2 rows[j].length c2] (by rfl) rfl rfl (by simp only [List.map_toArray, List.map_cons, List.map_nil]; rfl) ?_
          with_reducible refine (hm.out _ (Kd.C_below hKr.out (HBi.out.trans (Below.mono hHeld.1 (by omega))))).mono ?_
          rintro e w1 ⟨v, rfl, hM, hb1⟩
          refine ⟨_, rfl, ?_⟩
          have kg1 := pw_cell_below hb1 hHeld.2
          have hb2 := below_step (w := wr) (Below.refl _ _).drew hb1
          have hz1 : wo.heap.size + 1 ≤ w1.heap.size := by have := HSi.out; have := hb2.size; omega
          have hS1 : Below (wo.heap.size + 1) wr w1 := hb2.mono (by have := HSi.out; omega)
          obtain ⟨A1, n1, c1, rfl⟩ := R_shape hM
          have hM1 := Aside0.mk (show (Kd.slice 46 d').M w1 wr.heap.size (fun _ => True) (rows[j].map f) [.slice A1 n1 c1] from ⟨_, rfl, hM⟩)
          clear hM hb1
          refine hK.out _ _ ⟨hS1, kg1⟩ (fun hHeld => ?_)
          clear hK K
          refine norm_ (a' := ?_) ?_ ?_
          rotate_left
          · show Act.put _ (some 32) _ = _
            simp only [Act.put, List.setIfInBounds_toArray, List.set_cons_zero, List.set_cons_succ, i64_w, i32_w]
            rfl
          refine one_ (i := 4) (N := some 33) #[true, true, true, true, true, false, false, false] rfl rfl (by kernel_rfl) (by decide) (fun K hK => ?_)
          refine value_ (w1 := ?_) (v := ?_) (by rfl) rfl ?_ ?_
          rotate_left 2
          · go_simp
            constructor
            · rfl
            · rfl
          refine hK.out _ _ ⟨(Below.alloc hS1 hz1 _), (pw_cell_below ((Below.refl _ _).alloc (Nat.le_refl _) _) kg1)⟩ (fun hHeld => ?_)
          clear hK K
          refine norm_ (a' := ?_) ?_ ?_
          rotate_left
          · show Act.put _ (some 33) _ = _
            simp only [Act.put, List.setIfInBounds_toArray, List.set_cons_zero, List.set_cons_succ, i64_w, i32_w]
            rfl
          refine one_ (i := 5) (N := some 34) #[true, true, true, true, true, true, false, false] rfl rfl (by kernel_rfl) (by decide) (fun K hK => ?_)
          refine appendMade_step (Kd.slice 46 d') (w0 := wo) (wr := wr) (B := wo.heap.size) (by rfl) (.tmp 30) (.tmp 33) 44 48 _ 24 rfl Try.underlying44 info48 rfl Nat.zero_lt_one (by decide) rv ((rows.take j).map (·.map f)) (rows[j].map f) _ _ rfl rfl hM1.out HOi.out HBi.out HBi.out.size hb2 (fun k hk => by have := HSi.out; omega) ?aL ?_
          case aL => rw [List.length_map, List.length_take]; omega
          intro v1 w2 ho hb hg hr
          obtain ⟨A3, n3, c3, rfl⟩ := R_shape ho
          have hn3 : ∀ k, k < wo.heap.size + 1 + 1 → some k ≠ rv.ownBlock := fun k hk he => by have := (hr k he.symm).2; omega
          have hG2 := (hg.block _ (blk_lt HG.out) (hn3 _ (by omega))).trans HG.out
          have kg3 := blk_cell hG2 3
          have kf3 := blk_frozen hG2 3
          have hS2 : Below (wo.heap.size + 1) wr w2 := (Below.refl _ _).grown hg (by have := HSi.out; omega) (fun k hk => by have := (hr k hk).2; omega)
          refine hK.out _ _ ⟨hS2, kg3⟩ (fun hHeld => ?_)
          clear hK K
          refine norm_ (a' := ?_) ?_ ?_
          rotate_left
          · show Act.put _ (some 34) _ = _
            simp only [Act.put, List.setIfInBounds_toArray, List.set_cons_zero, List.set_cons_succ, i64_w, i32_w]
            rfl
          refine pure_ (i := 6) (N := some 35) (v := ?_) (a' := ?_) #[true, true, true, true, true, true, true, false] rfl rfl (by kernel_rfl) (fun _ _ _ h => h) (Or.inl ⟨by rfl, ?_⟩) ?_ ?_
          rotate_left
          · intro w'
            go_simp
            with_reducible rfl
          rotate_left
          · simp only [Act.put, List.setIfInBounds_toArray, List.set_cons_zero, List.set_cons_succ, i64_w, i32_w]
            rfl
          refine last_ (i := 7) (N := none) #[true, true, true, true, true, true, true, true] rfl rfl (by kernel_rfl) (by decide) (fun K hK => ?_)
          refine skip_ (w1 := ?_) (by rfl) rfl ?_ ?_
          rotate_left
          · go_simp
            rfl
          refine hK.out _ _ ?_
          clear hK K
          refine done_ (by kernel_rfl) ?_
          go_wp2
          go_roundg (gk - 1)
          case measure => have := HKi.out; omega
          case rel =>
            refine ⟨j + 1, _, by simp, ⟨by have := HKi.out; omega⟩, ⟨blk_set hG2 3 _⟩, ⟨?_⟩, ⟨?_⟩, ⟨Below.setCell hb (show wo.heap.size ≤ wo.heap.size + 1 by omega) _⟩⟩
            · rw [take_map _ _ _ hj]
              exact Kd.R_far ho (fun k hk => show k ≠ wo.heap.size + 1 by omega) _
            · have := HSi.out
              have := hg.size
              simp
              omega
        · have e0 : decide ((j : Int) < (rows.length : Int)) = false := decide_eq_false (by omega)
          have h1 : rows.take j = rows := List.take_of_length_le (by omega)
          rw [h1] at HOi
          obtain ⟨A3, n3, c3, rfl⟩ := R_shape HOi.out
          have hM := Aside0.mk (show (kA d').M wr wo.heap.size (fun _ => True) (ps[i].1, ps[i].2.map (·.map f)) [.int .i64 kk, .float .f64 xx, .string ss, .slice A3 n3 c3] from by
            rw [hp.out]
            exact ⟨_, [_], rfl, hen.out.symm, _, rfl, Kd.R_mono HOi.out (fun _ _ => trivial)⟩)
          go_wp2_with (first
            | (refine wpList_load_row rfl 46 (.tmp 6) rfl _ rfl 46 _ (0, 0) _ HG.out Try.underlying46 rfl (by kernel_rfl) ?_)
            | ((with_reducible refine gate_builtin (b := .append) (xs := #[.tmp 37, .tmp 39]) rfl ?_); at_builtin
               go_loud (refine appendMade (kA d') (w0 := w) (wr := wo) (B := w.heap.size) rfl (.tmp 37) (.tmp 39) 48 46 _ 56 rfl Try.underlying48 info46 rfl (show 0 < 4 by decide) (by decide) u3 ((ps.take i).map (fun p => (p.1, p.2.map (·.map f)))) (ps[i].1, ps[i].2.map (·.map f)) [.int .i64 kk, .float .f64 xx, .string ss, .slice A3 n3 c3] (fun _ => True) rfl rfl hM.out HO.out HB.out HB.out.size HBi.out (fun _ _ => trivial) ?aL ?_)
               (case aL => rw [List.length_map, List.length_take]; omega)
               intro v1 w2 ho hb hg hat; rw [← take_map (fun p : Ob α => (p.1, p.2.map (·.map f))) ps i hi] at ho; have ho := Aside0.mk ho; have hb := Aside0.mk hb; clear hg hat))
          go_roundg (go - 1)
          case measure => have := HK.out; have := hgo.out; omega
          case rel => exact ⟨i + 1, by simp, ⟨by have := HK.out; have := hgo.out; omega⟩, ho, hb⟩
    · have c0 : decide ((i : Int) < (ps.length : Int)) = false := decide_eq_false (by omega)
      have h1 : ps.take i = ps := List.take_of_length_le (by omega)
      rw [h1] at HO
      go_wp2
      go_ret
      exact ⟨_, rfl, HO.out, HB.out⟩
end Go.Proofs.Ytedbbekfpficpaa
