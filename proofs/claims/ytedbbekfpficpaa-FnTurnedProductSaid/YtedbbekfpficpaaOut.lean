import Derived.Test.YtedbbekfpficpaaIn
set_option linter.unusedSimpArgs false
set_option linter.unusedVariables false
namespace Go.Proofs.Ytedbbekfpficpaa
open Go.RowKit Go.Proofs.YtedbbekfpficpaaW.PrintWords Go.Proofs.YtedbbekfpficpaaW.PrintLast Fl
/-- The cells of a value of four fields. -/
def Shape4 {α : Type} (d : Kd α) : Prop := ∀ w x cs, d.K w x cs → ∃ k b s A n c, cs = [.int .i64 k, .float .f64 b, .string s, .slice A n c]
theorem shapeA {β : Type} (d : Kd β) : Shape4 (kA d) := by
  rintro w x cs ⟨ca, cb, rfl, hca, A1, cc, rfl, hlr, hR⟩
  obtain ⟨kk, xx, ss, hen⟩ := encI_shape x.1
  have hca' : ca = [.int .i64 kk, .float .f64 xx, .string ss] := hca.trans hen
  subst hca'
  exact ⟨_, _, _, _, _, _, rfl⟩
theorem shapeI {β : Type} (d : Kd β) : Shape4 (kI d) := by
  rintro w x cs ⟨ca, cb, rfl, hca, A1, cc, rfl, hlr, hR⟩
  obtain ⟨kk, xx, ss, hen⟩ := encI_shape x.1
  have hca' : ca = [.int .i64 kk, .float .f64 xx, .string ss] := hca.trans hen
  subst hca'
  exact ⟨_, _, _, _, _, _, rfl⟩
attribute [local go_sem] run_store_float
set_option maxHeartbeats 1000000 in
set_option maxRecDepth 100000 in
theorem out_ {α β : Type} (d : Kd α) (d' : Kd β) (f : α → β) (hsz : d.sz = 4) (hsz' : d'.sz = 4) (hsh : Shape4 d) (hsh' : Shape4 d') (hd : Hd) (rows : List (List α)) (hlen : rows.length ≤ 100) (hlen2 : ∀ r ∈ rows, r.length ≤ 100)
    (H : ∀ r ∈ rows, ∀ x ∈ r, ∀ cs w, d.K w x cs → Calls Try.prog 15 #[.agg cs.toArray] w (Made d' (f x) w)) (cs : List Value) (w : World) (hC : (kA d).K w (hd, rows) cs) :
    Calls Try.prog 15 #[.agg cs.toArray] w (Made (kI d') (hd, rows.map (·.map f)) w) := by
  have HH := Aside0.mk H
  have HL := Aside0.mk hlen2
  have hS := Aside0.mk hsz'
  have hSh := Aside0.mk hsh'
  clear H hlen2 hsz' hsh'
  have hl1 : (rows.length : Int) ≤ 100 := by omega
  obtain ⟨ca, cb, rfl, hca, A, c, rfl, hlr, hR⟩ := hC
  obtain ⟨kk, xx, ss, hen⟩ := encI_shape hd
  have hca' : ca = [.int .i64 kk, .float .f64 xx, .string ss] := hca.trans hen
  subst hca'
  clear hca
  have hen := Aside0.mk hen
  have hR := Aside0.mk hR
  have hlr : rows.length ≤ c := hlr
  show Calls Try.prog 15 #[.agg #[.int .i64 kk, .float .f64 xx, .string ss, .slice A rows.length c]] w _
  go_enter Try.func15, Try.ntmps15
  go_wp2
  go_loopg [19] rows.length (fun kq v19 w' => ∃ (i : Nat) (rv : Value), v19 = .int .i64 i ∧ Aside0 (i + kq = rows.length) ∧ Aside0 (w'.heap[w.heap.size + 1 + 1]? = some (.cells #[.int .i64 kk, .float .f64 xx, .string ss, rv] 30 (0, 0))) ∧
    Aside0 (w'.heap[w.heap.size + 1]? = some (.cells #[.int .i64 0, .float .f64 0, .string ⟨#[]⟩, .slice none 0 0] 30 (0, 0))) ∧
    Aside0 ((Kd.slice 30 d').R 34 w' w.heap.size (fun k => w.heap.size + 1 + 1 + 1 ≤ k) rv ((rows.take i).map (·.map f))) ∧ Aside0 (w.heap.size + 1 + 1 + 1 ≤ w'.heap.size) ∧ Aside0 (Below w.heap.size w w'))
  case atStart =>
    refine ⟨0, _, rfl, ⟨by omega⟩, ⟨?_⟩, ⟨?_⟩, ⟨by simpa using Kd.R_nil _ _ _ _ _⟩, ⟨by simp⟩, ⟨?_⟩⟩
    · repeat (first | (refine blk_at ?_; simp; done) | refine blk_alloc ?_ _)
    · repeat (first | (refine blk_at ?_; simp; done) | refine blk_alloc ?_ _)
    · repeat (first | exact Below.refl _ _ | refine Below.alloc ?_ (by simp <;> omega) _)
  case round =>
    obtain ⟨i, rv, rfl, HK, HG, HR, HO, HS, HB⟩ := hrel
    obtain ⟨wo, rfl⟩ : ∃ wo : World, wo = wr := ⟨_, rfl⟩
    obtain ⟨go, hgo⟩ : ∃ go : Nat, go = gk := ⟨_, rfl⟩
    have hgo := Aside0.mk hgo
    by_cases hi : i < rows.length
    · have c0 : decide ((i : Int) < (rows.length : Int)) = true := decide_eq_true (by omega)
      have b1 : (0 : Int) ≤ (i : Int) := by omega
      have b2 : (i : Int) < (rows.length : Int) := by omega
      obtain ⟨ad, cs, rfl, hcl, ⟨A1, c1, rfl, hl', hKr⟩, hce⟩ := Kd.C_get hR.out (rows[i]) (i : Int) b1 b2
      rw [getD_nat rows i hi] at hKr hce
      have kr : wo.cell? (ad.add i) = some (.slice A1 rows[i].length c1) := pw_cell_below HB.out (by simpa [Kd.slice] using hce 0 _ rfl)
      obtain ⟨row, hrow⟩ : ∃ row, Aside0 (row = rows[i]) := ⟨_, ⟨rfl⟩⟩
      rw [← hrow.out] at kr hKr
      have hmem : row ∈ rows := hrow.out ▸ List.getElem_mem hi
      have hHr := Aside0.mk (HH.out row hmem)
      have hl2 : row.length ≤ 100 := HL.out row hmem
      have hl3 : (row.length : Int) ≤ 100 := by omega
      have hKr := Aside0.mk hKr
      clear hcl hmem hce
      go_wp2
      go_loopg [6, 25] row.length (fun kq v6 v25 w' => ∃ (j : Nat), v25 = .int .i64 j ∧ Aside0 (j + kq = row.length) ∧ Aside0 (d'.R 30 w' wo.heap.size (fun _ => True) v6 ((row.take j).map f)) ∧ Aside0 (Below wo.heap.size wo w'))
      case atStart => exact ⟨0, rfl, ⟨by omega⟩, ⟨by simpa using Kd.R_nil _ _ _ _ _⟩, ⟨Below.refl _ _⟩⟩
      case round =>
        obtain ⟨j, rfl, HKi, HOi, HBi⟩ := hrel
        by_cases hj : j < row.length
        · have e0 : decide ((j : Int) < (row.length : Int)) = true := decide_eq_true (by omega)
          have e1 : (0 : Int) ≤ (j : Int) := by omega
          have e2 : (j : Int) < (row.length : Int) := by omega
          obtain ⟨ae, cs, rfl, hcl, hKx, hcell⟩ := Kd.C_get (Kd.C_below hKr.out (below_step HB.out HBi.out)) (row[j]) (j : Int) e1 e2
          rw [getD_nat row j hj] at hKx
          obtain ⟨k1, x1, s1, A2, n2, c2, rfl⟩ := hsh _ _ _ hKx
          have hcell : ∀ q u, [Value.int .i64 k1, .float .f64 x1, .string s1, .slice A2 n2 c2][q]? = some u → wr.cell? (ae.add (j * 4 + q)) = some u := by rw [hsz] at hcell; simpa using hcell
          have hcell := Aside0.mk hcell
          have hKx := Aside0.mk hKx
          have hx : row[j] ∈ row := List.getElem_mem hj
          have hm := Aside0.mk (hHr.out row[j] hx [Value.int .i64 k1, .float .f64 x1, .string s1, .slice A2 n2 c2])
          clear hx hcl
          go_wp2_with (first
            | (refine wpList_loadEl rfl 46 (.tmp 27) rfl ae (j * 4) rfl [.int .i64 k1, .float .f64 x1, .string s1, .slice A2 n2 c2] _ hcell.out Try.underlying46 rfl (by kernel_rfl) ?_)
            | (refine wpList_load_row rfl 46 (.tmp 8) rfl _ rfl 46 _ (0, 0) _ (heap_alloc_new _ _) Try.underlying46 rfl (by kernel_rfl) ?_)
            | (go_at_call 15; refine (hm.out _ (d.K_below ((Below.refl _ _).alloc (Nat.le_refl _) _) hKx.out)).mono ?_; rintro e w1 ⟨cs1, rfl, hM, hb1⟩
               obtain ⟨k3, x3, s3, A3, n3, c3, rfl⟩ := hSh.out _ _ _ (Kd.K_of_M _ hM)
               have hM := Aside0.mk (Kd.M_lower d' (show wr.heap.size ≤ _ by simp) hM)
               have hb1 := Aside0.mk (below_then ((Below.refl wr.heap.size wr).alloc (Nat.le_refl _) _) (by simp) hb1))
            | ((with_reducible refine gate_builtin (b := .append) (xs := #[.tmp 29, .tmp 32]) rfl ?_); at_builtin
               go_loud (refine appendMade d' (w0 := wo) (wr := wr) (B := wo.heap.size) rfl (.tmp 29) (.tmp 32) 34 30 _ 56 rfl Try.underlying34 (by rw [hS.out]; exact info30) (by rw [hS.out]; rfl) (by rw [hS.out]; decide) (by decide) u6 ((row.take j).map f) (f row[j]) [.int .i64 k3, .float .f64 x3, .string s3, .slice A3 n3 c3] (fun _ => True) rfl rfl hM.out HOi.out HBi.out HBi.out.size hb1.out (fun _ _ => trivial) ?aL ?_)
               (case aL => rw [List.length_map, List.length_take]; omega)
               intro v1 w2 ho hb hg hat; rw [← take_map f row j hj] at ho; have ho := Aside0.mk ho; have hb := Aside0.mk hb; clear hg hat))
          go_roundg (gk - 1)
          case measure => have := HKi.out; omega
          case rel => exact ⟨j + 1, by simp, ⟨by have := HKi.out; omega⟩, ho, hb⟩
        · have e0 : decide ((j : Int) < (row.length : Int)) = false := decide_eq_false (by omega)
          have h1 : row.take j = row := List.take_of_length_le (by omega)
          rw [h1] at HOi
          obtain ⟨A3, n3, c3, rfl⟩ := R_shape HOi.out
          have kg : wr.cell? ⟨w.heap.size + 1 + 1, 3, none⟩ = some rv := blk_cell (blk_below HG.out HBi.out) 3
          have hM := Aside0.mk (show (Kd.slice 30 d').M wr wo.heap.size (fun _ => True) (rows[i].map f) [.slice A3 n3 c3] from by rw [← hrow.out]; exact ⟨_, rfl, HOi.out⟩)
          go_wp2_with (first
            | ((with_reducible refine gate_builtin (b := .append) (xs := #[.tmp 36, .tmp 38]) rfl ?_); at_builtin
               go_loud (refine appendMade (Kd.slice 30 d') (w0 := w) (wr := wo) (B := w.heap.size) rfl (.tmp 36) (.tmp 38) 28 34 _ 24 rfl Try.underlying28 info34 rfl Nat.zero_lt_one (by decide) rv ((rows.take i).map (·.map f)) (rows[i].map f) [.slice A3 n3 c3] _ rfl rfl hM.out HO.out HB.out HB.out.size HBi.out (fun k hk => by have := HS.out; omega) ?aL ?_)
               (case aL => rw [List.length_map, List.length_take]; omega)
               intro v1 w2 ho hb hg hr
               obtain ⟨A4, n4, c4, rfl⟩ := R_shape ho
               have hn3 : ∀ k, k < w.heap.size + 1 + 1 + 1 → some k ≠ rv.ownBlock := fun k hk he => by have := (hr k he.symm).2; omega
               have hG2 := (hg.block _ (blk_lt HG.out) (hn3 _ (by omega))).trans HG.out
               have hR2 := (hg.block _ (blk_lt HR.out) (hn3 _ (by omega))).trans HR.out
               have kg3 := blk_cell hG2 3
               have kf3 := blk_frozen hG2 3
               rw [← take_map _ _ _ hi] at ho
               have hz := hg.size
               have hz := Aside0.mk hz; have ho := Aside0.mk ho; have hb := Aside0.mk hb; have hG2 := Aside0.mk hG2; have hR2 := Aside0.mk hR2; clear hg hr hn3))
          go_roundg (go - 1)
          case measure => have := HK.out; have := hgo.out; omega
          case rel =>
            refine ⟨i + 1, _, by simp, ⟨by have := HK.out; have := hgo.out; omega⟩, ⟨blk_set hG2.out 3 _⟩, ⟨blk_far hR2.out (show w.heap.size + 1 ≠ w.heap.size + 1 + 1 by omega) _⟩, ⟨Kd.R_far ho.out (fun k hk => show k ≠ w.heap.size + 1 + 1 by omega) _⟩, ⟨?_⟩, ⟨Below.setCell hb.out (show w.heap.size ≤ w.heap.size + 1 + 1 by omega) _⟩⟩
            have := HS.out
            have := hz.out
            simp
            omega
    · have c0 : decide ((i : Int) < (rows.length : Int)) = false := decide_eq_false (by omega)
      have h1 : rows.take i = rows := List.take_of_length_le (by omega)
      rw [h1] at HO
      obtain ⟨A2, n2, c2, rfl⟩ := R_shape HO.out
      go_wp2_with (first
        | (refine wpList_load_row rfl 30 (.tmp 3) rfl _ rfl 30 _ (0, 0) _ HG.out Try.underlying30 rfl (by kernel_rfl) ?_)
        | (refine wpList_store_row rfl 30 (.tmp 2) (.tmp 42) rfl _ _ rfl rfl 30 _ HR.out (by kernel_rfl) rfl (by first | rfl | decide | simp [Value.oneCell']) ?_))
      refine bodyPost_ret (results_cell_row rfl _ _ (w.heap.size + 1) 30 #[.int .i64 kk, .float .f64 xx, .string ss, .slice A2 n2 c2] (0, 0) _ rfl (setRow_heap _ _ _ _ _ _ HR.out) Try.underlying30 rfl (by kernel_rfl)) rfl ?_
      have hM := HO.out
      refine ⟨[.int .i64 kk, .float .f64 xx, .string ss, .slice A2 n2 c2], rfl, ?_, Below.setRow HB.out (by omega) _⟩
      exact ⟨[.int .i64 kk, .float .f64 xx, .string ss], [.slice A2 n2 c2], rfl, hen.out.symm, ⟨_, rfl, Kd.R_mono (Kd.R_step hM (fun k hk _ => setRow_other _ _ _ _ (by omega))) (fun _ _ => trivial)⟩⟩
end Go.Proofs.Ytedbbekfpficpaa
