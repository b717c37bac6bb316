import Derived.Test.YtedbbekfpficpaaOut
set_option linter.unusedSimpArgs false
set_option linter.unusedVariables false
namespace Go.Proofs.Ytedbbekfpficpaa
open Go.RowKit Go.Proofs.YtedbbekfpficpaaW.PrintWords Go.Proofs.YtedbbekfpficpaaW.PrintLast Fl
def Shape10 {α : Type} (d : Kd α) : Prop := ∀ w x cs, d.K w x cs → ∃ b A n c ty, cs = [.string ⟨#[]⟩, .float .f64 b, .string ⟨#[]⟩, .slice none 0 0, .slice A n c, .bool false, .string ⟨#[]⟩, .int .u8 ty, .pointer none, .pointer none]
theorem cellsF {β : Type} (d : Kd β) (w : World) (hd : Hd) (rows : List (List β)) (cs : List Value) (h : (kF d).K w (hd, rows) cs) :
    ∃ A c, (∃ b ty, cs = [.string ⟨#[]⟩, .float .f64 b, .string ⟨#[]⟩, .slice none 0 0, .slice A rows.length c, .bool false, .string ⟨#[]⟩, .int .u8 ty, .pointer none, .pointer none] ∧ encL hd = [.string ⟨#[]⟩, .float .f64 b, .string ⟨#[]⟩, .slice none 0 0] ∧ encR hd = [.bool false, .string ⟨#[]⟩, .int .u8 ty, .pointer none, .pointer none]) ∧
      rows.length ≤ c ∧ (Kd.slice 58 d).C w A rows.length rows := by
  obtain ⟨ca, cb, rfl, hca, cc, ce, rfl, ⟨A, c, rfl, hl, hR⟩, hce⟩ := h
  refine ⟨A, c, ?_, hl, hR⟩
  have hca' : ca = encL hd := hca
  have hce' : ce = encR hd := hce
  subst hca' hce'
  cases hd with
  | num n => exact ⟨_, _, rfl, rfl, rfl⟩
  | tab => exact ⟨_, _, rfl, rfl, rfl⟩
theorem shapeF {β : Type} (d : Kd β) : Shape10 (kF d) := by
  rintro w ⟨hd, rows⟩ cs h
  obtain ⟨A, c, ⟨b, ty, rfl, _⟩, _⟩ := cellsF d w hd rows cs h
  exact ⟨_, _, _, _, _, rfl⟩
attribute [local go_sem] run_store_float
set_option maxHeartbeats 1000000 in
set_option maxRecDepth 100000 in
theorem doorNum (n : Int) (A : Option Addr) (m c : Nat) (w : World) :
    Calls Try.prog 21 #[.agg #[.string ⟨#[]⟩, fl n, .string ⟨#[]⟩, .slice none 0 0, .slice A m c, .bool false, .string ⟨#[]⟩, .int .u8 1, .pointer none, .pointer none]] w fun e w' => e = .returned (.agg #[.int .i64 1, fl n, .string ⟨#[]⟩, .slice none 0 0]) ∧ Below w.heap.size w w' := by
  have HB := Below.refl w.heap.size w
  go_enter Try.func21, Try.ntmps21
  go_wp2
  refine bodyPost_ret (results_cell_row rfl _ _ (w.heap.size + 1) 46 #[.int .i64 1, fl n, .string ⟨#[]⟩, .slice none 0 0] (0, 0) _ rfl (by repeat (first | (refine blk_at ?_; simp; done) | refine blk_alloc ?_ _)) Try.underlying46 rfl (by kernel_rfl)) rfl ?_
  exact ⟨rfl, by repeat (first | exact HB | refine Below.alloc ?_ (by simp <;> omega) _)⟩
set_option maxHeartbeats 1000000 in
set_option maxRecDepth 100000 in
theorem doorRows_ {α β : Type} (d : Kd α) (d' : Kd β) (f : α → β) (hsz : d.sz = 10) (hsz' : d'.sz = 4) (hsh : Shape10 d) (hsh' : Shape4 d') (rows : List (List α)) (hlen : rows.length ≤ 100) (hlen2 : ∀ r ∈ rows, r.length ≤ 100)
    (H : ∀ r ∈ rows, ∀ x ∈ r, ∀ cs w, d.K w x cs → Calls Try.prog 21 #[.agg cs.toArray] w (Made d' (f x) w)) (A : Option Addr) (c : Nat) (w : World) (hC : (Kd.slice 58 d).C w A rows.length rows) :
    Calls Try.prog 26 #[.slice A rows.length c] w (MadeRow (Kd.slice 46 d') 48 (rows.map (·.map f)) w) := by
  have HH := Aside0.mk H
  have HL := Aside0.mk hlen2
  have hS := Aside0.mk hsz'
  have hSh := Aside0.mk hsh'
  have hR := Aside0.mk hC
  have HB := Aside0.mk (Below.refl w.heap.size w)
  clear H hlen2 hsz' hsh' hC
  have hl1 : (rows.length : Int) ≤ 100 := by omega
  go_enter Try.func26, Try.ntmps26
  go_wp2
  go_loopg [3, 11] rows.length (fun kq v3 v11 w' => ∃ (i : Nat), v11 = .int .i64 i ∧ Aside0 (i + kq = rows.length) ∧
    Aside0 ((Kd.slice 46 d').R 48 w' w.heap.size (fun _ => True) v3 ((rows.take i).map (·.map f))) ∧ Aside0 (Below w.heap.size w w'))
  case atStart => exact ⟨0, rfl, ⟨by omega⟩, ⟨by simpa using Kd.R_nil _ _ _ _ _⟩, HB⟩
  case round =>
    clear HB
    obtain ⟨i, rfl, HK, HO, HB⟩ := hrel
    obtain ⟨wo, rfl⟩ : ∃ wo : World, wo = wr := ⟨_, rfl⟩
    obtain ⟨go, hgo⟩ : ∃ go : Nat, Aside0 (go = gk) := ⟨_, ⟨rfl⟩⟩
    obtain ⟨o3, ho3⟩ : ∃ o3 : Value, Aside0 (o3 = u3) := ⟨_, ⟨rfl⟩⟩
    by_cases hi : i < rows.length
    · have c0 : decide ((i : Int) < (rows.length : Int)) = true := decide_eq_true (by omega)
      have b1 : (0 : Int) ≤ (i : Int) := by omega
      have b2 : (i : Int) < (rows.length : Int) := by omega
      obtain ⟨ad, cs, rfl, hcl, ⟨A1, c1, rfl, hl', hKr⟩, hce⟩ := Kd.C_get hR.out (rows[i]) (i : Int) b1 b2
      rw [getD_nat rows i hi] at hKr hce
      have kr : wo.cell? (ad.add i) = some (.slice A1 rows[i].length c1) := pw_cell_below HB.out (by simpa [Kd.slice] using hce 0 _ rfl)
      obtain ⟨row, hrow⟩ : ∃ row, Aside0 (row = rows[i]) := ⟨_, ⟨rfl⟩⟩
      rw [← hrow.out] at kr hKr
      have hmem : row ∈ rows := hrow.out ▸ List.getElem_mem hi
      have hHr := Aside0.mk (HH.out row hmem)
      have hl2 : row.length ≤ 100 := HL.out row hmem
      have hl3 : (row.length : Int) ≤ 100 := by omega
      have hKr := Aside0.mk hKr
      clear hcl hmem hce
      go_wp2
      go_loopg [6, 17] row.length (fun kq v6 v17 w' => ∃ (j : Nat), v17 = .int .i64 j ∧ Aside0 (j + kq = row.length) ∧ Aside0 (d'.R 46 w' wo.heap.size (fun _ => True) v6 ((row.take j).map f)) ∧ Aside0 (Below wo.heap.size wo w'))
      case atStart => exact ⟨0, rfl, ⟨by omega⟩, ⟨by simpa using Kd.R_nil _ _ _ _ _⟩, ⟨Below.refl _ _⟩⟩
      case round =>
        obtain ⟨j, rfl, HKi, HOi, HBi⟩ := hrel
        by_cases hj : j < row.length
        · have e0 : decide ((j : Int) < (row.length : Int)) = true := decide_eq_true (by omega)
          have e1 : (0 : Int) ≤ (j : Int) := by omega
          have e2 : (j : Int) < (row.length : Int) := by omega
          obtain ⟨ae, cs, rfl, hcl, hKx, hcell⟩ := Kd.C_get (Kd.C_below hKr.out (below_step HB.out HBi.out)) (row[j]) (j : Int) e1 e2
          rw [getD_nat row j hj] at hKx
          obtain ⟨x1, A2, n2, c2, t1, rfl⟩ := hsh _ _ _ hKx
          have hcell : ∀ q u, [Value.string ⟨#[]⟩, .float .f64 x1, .string ⟨#[]⟩, .slice none 0 0, .slice A2 n2 c2, .bool false, .string ⟨#[]⟩, .int .u8 t1, .pointer none, .pointer none][q]? = some u → wr.cell? (ae.add (j * 10 + q)) = some u := by rw [hsz] at hcell; simpa using hcell
          have hcell := Aside0.mk hcell
          have hKx := Aside0.mk hKx
          have hx : row[j] ∈ row := List.getElem_mem hj
          have hm := Aside0.mk (hHr.out row[j] hx [Value.string ⟨#[]⟩, .float .f64 x1, .string ⟨#[]⟩, .slice none 0 0, .slice A2 n2 c2, .bool false, .string ⟨#[]⟩, .int .u8 t1, .pointer none, .pointer none])
          clear hx hcl
          go_wp2_with (first
            | (refine wpList_loadEl rfl 58 (.tmp 19) rfl ae (j * 10) rfl [Value.string ⟨#[]⟩, .float .f64 x1, .string ⟨#[]⟩, .slice none 0 0, .slice A2 n2 c2, .bool false, .string ⟨#[]⟩, .int .u8 t1, .pointer none, .pointer none] _ hcell.out Try.underlying58 rfl (by kernel_rfl) ?_)
            | (refine wpList_load_row rfl 58 (.tmp 8) rfl _ rfl 58 _ (0, 0) _ (heap_alloc_new _ _) Try.underlying58 rfl (by kernel_rfl) ?_)
            | (go_at_call 21; refine (hm.out _ (d.K_below ((Below.refl _ _).alloc (Nat.le_refl _) _) hKx.out)).mono ?_; rintro e w1 ⟨cs1, rfl, hM, hb1⟩
               obtain ⟨k3, x3, s3, A3, n3, c3, rfl⟩ := hSh.out _ _ _ (Kd.K_of_M _ hM)
               have hM := Aside0.mk (Kd.M_lower d' (show wr.heap.size ≤ _ by simp) hM)
               have hb1 := Aside0.mk (below_then ((Below.refl wr.heap.size wr).alloc (Nat.le_refl _) _) (by simp) hb1))
            | ((with_reducible refine gate_builtin (b := .append) (xs := #[.tmp 21, .tmp 24]) rfl ?_); at_builtin
               go_loud (refine appendMade d' (w0 := wo) (wr := wr) (B := wo.heap.size) rfl (.tmp 21) (.tmp 24) 48 46 _ 56 rfl Try.underlying48 (by rw [hS.out]; exact info46) (by rw [hS.out]; rfl) (by rw [hS.out]; decide) (by decide) u6 ((row.take j).map f) (f row[j]) [.int .i64 k3, .float .f64 x3, .string s3, .slice A3 n3 c3] (fun _ => True) rfl rfl hM.out HOi.out HBi.out HBi.out.size hb1.out (fun _ _ => trivial) ?aL ?_)
               (case aL => rw [List.length_map, List.length_take]; omega)
               intro v1 w2 ho hb hg hat; rw [← take_map f row j hj] at ho; have ho := Aside0.mk ho; have hb := Aside0.mk hb; clear hg hat))
          go_roundg (gk - 1)
          case measure => have := HKi.out; omega
          case rel => exact ⟨j + 1, by simp, ⟨by have := HKi.out; omega⟩, ho, hb⟩
        · have e0 : decide ((j : Int) < (row.length : Int)) = false := decide_eq_false (by omega)
          have h1 : row.take j = row := List.take_of_length_le (by omega)
          rw [h1] at HOi
          obtain ⟨A3, n3, c3, rfl⟩ := R_shape HOi.out
          have hM := Aside0.mk (show (Kd.slice 46 d').M wr wo.heap.size (fun _ => True) (rows[i].map f) [.slice A3 n3 c3] from by rw [← hrow.out]; exact ⟨_, rfl, HOi.out⟩)
          go_wp2_with (first
            | ((with_reducible refine gate_builtin (b := .append) (xs := #[.tmp 27, .tmp 29]) rfl ?_); at_builtin
               go_loud (refine appendMade (Kd.slice 46 d') (w0 := w) (wr := wo) (B := w.heap.size) rfl (.tmp 27) (.tmp 29) 44 48 _ 24 rfl Try.underlying44 info48 rfl Nat.zero_lt_one (by decide) u3 ((rows.take i).map (·.map f)) (rows[i].map f) [.slice A3 n3 c3] (fun _ => True) rfl rfl hM.out HO.out HB.out HB.out.size HBi.out (fun _ _ => trivial) ?aL ?_)
               (case aL => rw [List.length_map, List.length_take]; omega)
               intro v1 w2 ho hb hg hat
               rw [← take_map _ _ _ hi] at ho; have ho := Aside0.mk ho; have hb := Aside0.mk hb; clear hg hat))
          go_roundg (go - 1)
          case measure => have := HK.out; have := hgo.out; omega
          case rel => exact ⟨i + 1, by simp, ⟨by have := HK.out; have := hgo.out; omega⟩, ho, hb⟩
    · have c0 : decide ((i : Int) < (rows.length : Int)) = false := decide_eq_false (by omega)
      have h1 : rows.take i = rows := List.take_of_length_le (by omega)
      rw [h1] at HO
      go_wp2
      go_ret
      exact ⟨_, rfl, HO.out, HB.out⟩
set_option maxHeartbeats 1000000 in
set_option maxRecDepth 100000 in
theorem doorTab {α β : Type} (d : Kd α) (d' : Kd β) (f : α → β) (rows : List (List α))
    (H : ∀ A c w, (Kd.slice 58 d).C w A rows.length rows → Calls Try.prog 26 #[.slice A rows.length c] w (MadeRow (Kd.slice 46 d') 48 (rows.map (·.map f)) w)) (cs : List Value) (w : World) (hC : (kF d).K w (.tab, rows) cs) :
    Calls Try.prog 21 #[.agg cs.toArray] w (Made (kA d') (.tab, rows.map (·.map f)) w) := by
  obtain ⟨A, c, ⟨b, ty, rfl, hL, hRr⟩, hl, hR⟩ := cellsF d w .tab rows cs hC
  obtain rfl : b = F 0 := by simp [encL, fl] at hL; exact hL.symm
  obtain rfl : ty = 4 := by simp [encR] at hRr; exact hRr.symm
  have HH := Aside0.mk H
  have hR := Aside0.mk hR
  clear H hC hL hRr
  have HB := Below.refl w.heap.size w
  show Calls Try.prog 21 #[.agg #[.string ⟨#[]⟩, fl 0, .string ⟨#[]⟩, .slice none 0 0, .slice A rows.length c, .bool false, .string ⟨#[]⟩, .int .u8 4, .pointer none, .pointer none]] w _
  have hz := F_zero
  go_enter Try.func21, Try.ntmps21
  go_wp2_with (first
    | (go_at_call 26; refine (HH.out A c _ (Kd.C_below hR.out (by repeat (first | exact Below.refl _ _ | refine Below.alloc ?_ (by simp <;> omega) _)))).mono ?_; rintro e w1 ⟨v, rfl, hM, hb1⟩; obtain ⟨A3, n3, c3, rfl⟩ := R_shape hM
       have kR := (hb1.block (w.heap.size + 1) (by simp <;> omega)).trans (show _ = some (Obj.cells #[.int .i64 0, .float .f64 0, .string ⟨#[]⟩, .slice none 0 0] 46 (0, 0)) by repeat (first | (refine blk_at ?_; simp; done) | refine blk_alloc ?_ _))
       have kR := Aside0.mk kR
       have hM := Aside0.mk hM
       have hb1 := Aside0.mk hb1)
    | (refine wpList_store_row rfl 46 (.tmp 2) (.tmp 33) rfl (w.heap.size + 1) _ rfl rfl 46 _ kR.out (by kernel_rfl) rfl (by first | rfl | decide | simp [Value.oneCell']) ?_))
  refine bodyPost_ret (results_cell_row rfl _ _ (w.heap.size + 1) 46 #[.int .i64 5, .float .f64 0, .string ⟨#[]⟩, .slice A3 n3 c3] (0, 0) _ rfl (setRow_heap _ _ _ _ _ _ kR.out) Try.underlying46 rfl (by kernel_rfl)) rfl ?_
  have hb2 : Below w.heap.size w w1 := below_then (by repeat (first | exact Below.refl _ _ | refine Below.alloc ?_ (by simp <;> omega) _)) (by simp <;> omega) hb1.out
  refine ⟨[.int .i64 5, .float .f64 0, .string ⟨#[]⟩, .slice A3 n3 c3], rfl, ?_, Below.setRow hb2 (by omega) _⟩
  refine ⟨[.int .i64 5, .float .f64 0, .string ⟨#[]⟩], [.slice A3 n3 c3], rfl, ?_, ⟨_, rfl, ?_⟩⟩
  · show _ = encI .tab
    rw [encI, fl, F_zero]
  · exact Kd.R_lower (Kd.R_mono (Kd.R_step (Kd.R_bound hM.out) (fun k hk _ => setRow_other _ _ _ _ (by have := hk.2.1; simp at this; omega))) (fun _ _ => trivial)) (by simp <;> omega)
end Go.Proofs.Ytedbbekfpficpaa
