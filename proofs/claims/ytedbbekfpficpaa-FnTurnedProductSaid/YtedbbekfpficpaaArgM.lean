import Derived.Test.YtedbbekfpficpaaMid
import Derived.Test.YtedbbekfpficpaaSmall
set_option linter.unusedSimpArgs false
set_option linter.unusedVariables false
namespace Go.Proofs.Ytedbbekfpficpaa
open Go.RowKit Go.Proofs.YtedbbekfpficpaaW.PrintWords Go.Proofs.YtedbbekfpficpaaW.PrintLast Fl
theorem store_mid_step {P : Program} {ops : Array Oper} {oi : Oper} {a : Act} {w : World} {K : Act → World → Prop} {Q : Exit → Act → World → Prop} (ty : TypeId) (x y : Operand) (hw : Region.wanted oi (yielded ops a.tmps) = true) (hN : oi.dst = none) (ho : oi.op = .store ty x y)
    (b o : Nat) (cells : Array Value) (hx : a.eval x = .pointer (some ⟨b, o, none⟩)) (hy : a.eval y = .agg cells)
    (ht : w.there b o cells.size) (hi : (P.info? ty).map (·.size) = some cells.size) (h1 : cells.all (·.oneCell') = true)
    (h : K a (w.setCells b o cells.toList)) : if Region.wanted oi (yielded ops a.tmps) = true then Oper.wp P oi a w K Q else K (a.put none undef) w := by
  rw [if_pos hw]
  refine wp_store_mid ty x y ho b o cells hx hy ht hi h1 ?_
  rw [hN]
  exact h
def cellsN (n : Int) : List Value := [.string ⟨#[]⟩, fl n, .string ⟨#[]⟩, .slice none 0 0, .slice none 0 0, .bool false, .string ⟨#[]⟩, .int .u8 1, .pointer none, .pointer none]
def cellsZ : List Value := [.string ⟨#[]⟩, .float .f64 0, .string ⟨#[]⟩, .slice none 0 0, .slice none 0 0, .bool false, .string ⟨#[]⟩, .int .u8 0, .pointer none, .pointer none]
theorem info53 : (Try.prog.info? 53).map (fun i => (i.zero, i.size, i.bytes)) = some (some (.slice none 0 0), 1, 24) := by kernel_rfl
theorem info58 : (Try.prog.info? 58).map (fun i => (i.zero, i.size, i.bytes)) = some (some (.agg #[.string ⟨#[]⟩, .float .f64 0, .string ⟨#[]⟩, .slice none 0 0, .slice none 0 0, .bool false, .string ⟨#[]⟩, .int .u8 0, .pointer none, .pointer none]), 10, 136) := by kernel_rfl
theorem cellsN_K (n : Int) (w : World) : nF.K w (nu n) (cellsN n) :=
  ⟨_, _, rfl, rfl, _, _, rfl, ⟨none, 0, rfl, Nat.le_refl _, rfl, by simp [nu], fun h => absurd h (by simp [nu])⟩, rfl⟩
attribute [local go_sem] run_store_float
set_option maxHeartbeats 1000000 in
set_option maxRecDepth 100000 in
theorem argMatrix (rows : List (List Int)) (hlen : rows.length ≤ 100) (hlen2 : ∀ r ∈ rows, r.length ≤ 100) (hnum : ∀ r ∈ rows, ∀ x ∈ r, x.natAbs < 2 ^ 53) (A : Option Addr) (c : Nat) (w : World) (hC : (Kd.slice 27 dFl).C w A rows.length rows) :
    Calls Try.prog 34 #[.slice A rows.length c] w fun e w' => (∃ A' c', e = .returned (.slice A' rows.length c') ∧ rows.length ≤ c' ∧ ∀ w'' : World, (∀ k, w.heap.size ≤ k → k < w'.heap.size → w''.heap[k]? = w'.heap[k]?) → (Kd.slice 58 nF).C w'' A' rows.length (rows.map (·.map nu))) ∧ Below w.heap.size w w' := by
  have HL := Aside0.mk hlen2
  have HN := Aside0.mk hnum
  have hR' := Aside0.mk hC
  have HB := Aside0.mk (Below.refl w.heap.size w)
  clear hlen2 hnum hC
  have hl1 : (rows.length : Int) ≤ 100 := by omega
  go_enter Try.func34, Try.ntmps34
  go_wp2
  go_loopg [2, 9] rows.length (fun kq v2 v9 w' => ∃ (i : Nat) (vals : List Value), v9 = .int .i64 i ∧ Aside0 (i + kq = rows.length) ∧
    Aside0 (Mat w' w.heap.size 53 58 10 v2 vals (((rows.take i).map (fun r => some (r.map cellsN))))) ∧ Aside0 (Below w.heap.size w w'))
  case atStart => exact ⟨0, [], rfl, ⟨by omega⟩, ⟨by simpa using Mat.nil _ _ _ _ _⟩, HB⟩
  case round =>
    clear HB
    obtain ⟨i, vals, rfl, HK, HM, HB⟩ := hrel
    obtain ⟨wo, rfl⟩ : ∃ wo : World, wo = wr := ⟨_, rfl⟩
    obtain ⟨go, hgo⟩ : ∃ go : Nat, Aside0 (go = gk) := ⟨_, ⟨rfl⟩⟩
    by_cases hi : i < rows.length
    · have c0 : decide ((i : Int) < (rows.length : Int)) = true := decide_eq_true (by omega)
      have b1 : (0 : Int) ≤ (i : Int) := by omega
      have b2 : (i : Int) < (rows.length : Int) := by omega
      obtain ⟨ad, cs, rfl, hcl, ⟨A1, c1, rfl, hl', hKr⟩, hce⟩ := Kd.C_get hR'.out (rows[i]) (i : Int) b1 b2
      rw [getD_nat rows i hi] at hKr hce
      have kr : wo.cell? (ad.add i) = some (.slice A1 rows[i].length c1) := pw_cell_below HB.out (by simpa [Kd.slice] using hce 0 _ rfl)
      obtain ⟨row, hrow⟩ : ∃ row, Aside0 (row = rows[i]) := ⟨_, ⟨rfl⟩⟩
      rw [← hrow.out] at kr hKr
      have hmem : row ∈ rows := hrow.out ▸ List.getElem_mem hi
      have hNr := Aside0.mk (HN.out row hmem)
      have hl2 : row.length ≤ 100 := HL.out row hmem
      have hl3 : (row.length : Int) ≤ 100 := by omega
      have hKr' := Aside0.mk hKr
      clear hcl hmem hce hKr hl'
      have hvl : vals.length = i := by have := HM.out.len; simp at this; omega
      have hvl := Aside0.mk hvl
      have hmk := run_makeN (P := Try.prog) 53 58 _ 10 136 Try.underlying53 info58 (by decide) row.length (by omega)
      go_wp2_with (first
        | ((with_reducible refine gate_builtin (b := .append) (xs := #[.tmp 14, .tmp 18]) rfl ?_); at_builtin
           go_loud (refine print_append (w0 := w) w.heap.size rfl (.tmp 14) (.tmp 18) 54 53 _ 24 rfl Try.underlying54 info53 rfl (by decide) u2 vals (.slice (some ⟨wo.heap.size, 0, none⟩) row.length row.length) rfl (by show Value.slice (some ⟨wo.heap.size + 1, 0, none⟩) 1 1 = _; simp) rfl (HM.out.own.alloc _) (HB.out.alloc HB.out.size _) (by have := HB.out.size; simp; omega) (by have := hvl.out; omega) ?_)
           go_loud (
             intro v1 w2 ho hb hg hat
             have hg9 := (World.grownBy_alloc wo _ u2.ownBlock).trans hg
             have hgb : w2.heap[wo.heap.size]? = some (.cells (madeCells cellsZ.toArray (row.length * 10)) 58 (0, 0)) := (hg.block _ (by simp) (by
               rcases HM.out.own.2 with ⟨hv, _⟩ | ⟨g', cap, cur, hv, _, hg', _⟩
               · rw [hv]; simp [Value.ownBlock]
               · rw [hv]; intro e; have := blk_lt hg'; simp [Value.ownBlock] at e; omega)).trans (heap_alloc_new _ _)
             have hgb' : w2.heap[wo.heap.size]? = some (.cells (part cellsN cellsZ row 0).flatten.toArray 58 (0, 0)) := by rw [hgb, part_zero, ← made_flat' cellsZ 10 row.length rfl (by decide)]
             have hrow0 : w2.ownsRow w.heap.size 58 10 (.slice (some ⟨wo.heap.size, 0, none⟩) row.length row.length) (part cellsN cellsZ row 0).length (part cellsN cellsZ row 0).flatten := by
               rw [part_length _ _ _ _ (Nat.zero_le _)]
               exact own_of_full hgb' HB.out.size (by rw [flatten_length (part_cells _ _ _ _ 10 (fun _ => rfl) rfl), part_length _ _ _ _ (Nat.zero_le _)]) (by simp only [maxLen]; omega)
             have hMat := HM.out.snoc (by decide) (some (part cellsN cellsZ row 0)) ho hg9 (fun c hc => by
               injection hc with hc
               subst hc
               exact ⟨hrow0, part_cells _ _ _ _ 10 (fun _ => rfl) rfl, fun b hb => by simp [Value.ownBlock] at hb; omega⟩)
             obtain ⟨A4, cap4, rfl, hcap4, hread⟩ := hMat.shape
             obtain ⟨h, rfl, kh, _, hh, hhc⟩ := hread i (.slice (some ⟨wo.heap.size, 0, none⟩) row.length row.length) (by rw [← hvl.out]; simp)
             obtain ⟨n4, hn4⟩ : ∃ n4, Aside0 (n4 = (vals ++ [Value.slice (some ⟨wo.heap.size, 0, none⟩) row.length row.length]).length) := ⟨_, ⟨rfl⟩⟩
             rw [← hn4.out] at hMat ⊢
             have hn5 : (i : Int) < (n4 : Int) := by have h1 := hn4.out; have h2 := hvl.out; rw [List.length_append, List.length_singleton] at h1; omega
             have hMat := Aside0.mk hMat; have hb := Aside0.mk hb
             clear ho hg hat hg9 hgb hgb' hrow0 hread kh hhc)))
      go_loopg [22] row.length (fun kq v22 w' => ∃ (j : Nat), v22 = .int .i64 j ∧ Aside0 (j + kq = row.length) ∧
        Aside0 (Mat w' w.heap.size 53 58 10 (.slice (some ⟨h, 0, none⟩) n4 cap4) (vals ++ [.slice (some ⟨wo.heap.size, 0, none⟩) row.length row.length]) ((rows.take i).map (fun r => some (r.map cellsN)) ++ [some (part cellsN cellsZ row j)])) ∧ Aside0 (Below w.heap.size w w'))
      case atStart => exact ⟨0, rfl, ⟨by omega⟩, hMat, hb⟩
      case round =>
        clear hMat hb
        obtain ⟨j, rfl, HKi, HMi, HBi⟩ := hrel
        by_cases hj : j < row.length
        · have e0 : decide ((j : Int) < (row.length : Int)) = true := decide_eq_true (by omega)
          have e1 : (0 : Int) ≤ (j : Int) := by omega
          have e2 : (j : Int) < (row.length : Int) := by omega
          obtain ⟨ae, cs, rfl, hcl, hKx, hcell⟩ := Kd.C_get (Kd.C_below hKr'.out HBi.out) (row[j]) (j : Int) e1 e2
          rw [getD_nat row j hj] at hKx
          obtain rfl : cs = [fl row[j]] := hKx
          have kx : wr.cell? (ae.add j) = some (fl row[j]) := by simpa [dFl, Kd.scalar] using hcell 0 _ rfl
          have hbj := Aside0.mk (hNr.out row[j] (List.getElem_mem hj))
          have hMw := HMi.out
          have hvl' : ((rows.take i).map (fun r => some (r.map cellsN))).length = i := by simp; omega
          have hvl2 : (vals ++ [Value.slice (some ⟨wo.heap.size, 0, none⟩) row.length row.length])[i]? = some (.slice (some ⟨wo.heap.size, 0, none⟩) row.length row.length) := by rw [← hvl.out]; simp
          have hmi : ((rows.take i).map (fun r => some (r.map cellsN)) ++ [some (part cellsN cellsZ row j)])[i]? = some (some (part cellsN cellsZ row j)) := by
            rw [List.getElem?_append_right (by omega), hvl', Nat.sub_self]; rfl
          have hrw := hMw.rows i _ _ hvl2 hmi
          rw [part_length _ _ _ _ (by omega)] at hrw
          obtain ⟨hgf, hgb, hgm⟩ := own_full hrw
          have hlf : (part cellsN cellsZ row j).flatten.length = row.length * 10 := by rw [flatten_length (part_cells _ _ _ _ 10 (fun _ => rfl) rfl), part_length _ _ _ _ (by omega)]
          have kh : wr.drew.cell? ⟨h, i, none⟩ = some (.slice (some ⟨wo.heap.size, 0, none⟩) row.length row.length) := by
            obtain ⟨A', cap', hv, _, hrd⟩ := hMw.shape
            obtain ⟨h', hA, hc, _⟩ := hrd i _ hvl2
            injection hv with hv
            rw [hA] at hv
            injection hv with hv
            injection hv with hv
            rw [hv]; exact hc
          have hX := Aside0.mk (And.intro hMw (And.intro hvl2 (And.intro hmi (And.intro hgf (And.intro hgb (And.intro hlf hvl'))))))
          clear hMw hvl' hvl2 hmi hrw hgm hcl hcell
          obtain ⟨L, hL⟩ : ∃ L, Aside0 (L = (part cellsN cellsZ row j).flatten) := ⟨_, ⟨rfl⟩⟩
          rw [← hL.out] at hgf hlf
          have hgf := hgf
          go_wp2
          refine start_ (n := 9) (S := fun w' => w'.cell? ⟨h, i, none⟩ = some (.slice (some ⟨wo.heap.size, 0, none⟩) row.length row.length)) (ds := [8]) #[false, false, false, false, false, false, false, false, false] (by kernel_rfl) rfl rfl (kh) (fun hHeld => ?_)
          refine pure_ (i := 0) (N := some 27) (v := ?_) (a' := ?_) #[true, false, false, false, false, false, false, false, false] rfl rfl (by kernel_rfl) (fun _ _ _ h => h) (Or.inl ⟨by rfl, ?_⟩) ?_ ?_
          rotate_left
          · intro w'
            go_simp
            with_reducible rfl
          rotate_left
          · simp only [Act.put, List.setIfInBounds_toArray, List.set_cons_zero, List.set_cons_succ, i64_w, i32_w]
            rfl
          refine pure_ (i := 1) (N := some 28) (v := ?_) (a' := ?_) #[true, true, false, false, false, false, false, false, false] rfl rfl (by kernel_rfl) (fun _ _ _ h => h) (Or.inl ⟨by rfl, ?_⟩) ?_ ?_
          rotate_left
          · intro w'
            go_simp
            with_reducible rfl
          rotate_left
          · simp only [Act.put, List.setIfInBounds_toArray, List.set_cons_zero, List.set_cons_succ, i64_w, i32_w]
            rfl
          refine pure_ (i := 2) (N := some 29) (v := ?_) (a' := ?_) #[true, true, true, false, false, false, false, false, false] rfl rfl (by kernel_rfl) (fun _ _ _ h => h) (Or.inl ⟨by rfl, ?_⟩) ?_ ?_
          rotate_left
          · intro w'
            go_simp
            with_reducible rfl
          rotate_left
          · simp only [Act.put, List.setIfInBounds_toArray, List.set_cons_zero, List.set_cons_succ, i64_w, i32_w]
            rfl
          refine pure_ (i := 4) (N := some 31) (v := ?_) (a' := ?_) #[true, true, true, false, true, false, false, false, false] rfl rfl (by kernel_rfl) (fun _ _ _ h => h) (Or.inl ⟨by rfl, ?_⟩) ?_ ?_
          rotate_left
          · intro w'
            go_simp
            with_reducible rfl
          rotate_left
          · simp only [Act.put, List.setIfInBounds_toArray, List.set_cons_zero, List.set_cons_succ, i64_w, i32_w]
            rfl
          refine pure_ (i := 5) (N := some 32) (v := ?_) (a' := ?_) #[true, true, true, false, true, true, false, false, false] rfl rfl (by kernel_rfl) (fun _ _ _ h => h) (Or.inl ⟨by rfl, ?_⟩) ?_ ?_
          rotate_left
          · intro w'
            go_simp
            with_reducible rfl
          rotate_left
          · simp only [Act.put, List.setIfInBounds_toArray, List.set_cons_zero, List.set_cons_succ, i64_w, i32_w]
            rfl
          refine take_ (i := 3) (N := some 30) (v := ?_) (a' := ?_) #[true, true, true, true, true, true, false, false, false] rfl rfl (by kernel_rfl) (fun _ _ _ h => h) (Or.inl ⟨by rfl, ?_⟩) hHeld ?_ ?_
          rotate_left
          · intro w' s0
            go_simp
            with_reducible rfl
          rotate_left
          · simp only [Act.put, List.setIfInBounds_toArray, List.set_cons_zero, List.set_cons_succ, i64_w, i32_w]
            rfl
          refine one_ (i := 6) (N := some 33) #[true, true, true, true, true, true, true, false, false] rfl rfl (by kernel_rfl) (by decide) (fun K hK => ?_)
          refine goes_ Try.func31 (by kernel_rfl) rfl #[fl row[j]] (by rfl) rfl rfl (by simp only [List.map_toArray, List.map_cons, List.map_nil]; rfl) ?_
          with_reducible refine (newNumber row[j] hbj.out _).mono ?_
          rintro e w1 ⟨rfl, hb1⟩
          refine ⟨_, rfl, ?_⟩
          have kh1 := pw_cell_below hb1 hHeld
          have hb2 := below_step (w := wr) (Below.refl _ _).drew hb1
          have hgf1 := blk_below hgf hb2
          have hth : w1.there wo.heap.size (j * 10) 10 := fun q hq => ⟨by rw [blk_cell hgf1 (j * 10 + q)]; simp; omega, blk_frozen hgf1 _⟩
          refine hK.out _ _ (kh1) (fun hHeld => ?_)
          clear hK K
          refine norm_ (a' := ?_) ?_ ?_
          rotate_left
          · show Act.put _ (some 33) _ = _
            simp only [Act.put, List.setIfInBounds_toArray, List.set_cons_zero, List.set_cons_succ, i64_w, i32_w]
            rfl
          refine pure_ (i := 7) (N := some 34) (v := ?_) (a' := ?_) #[true, true, true, true, true, true, true, true, false] rfl rfl (by kernel_rfl) (fun _ _ _ h => h) (Or.inl ⟨by rfl, ?_⟩) ?_ ?_
          rotate_left
          · intro w'
            go_simp
            with_reducible rfl
          rotate_left
          · simp only [Act.put, List.setIfInBounds_toArray, List.set_cons_zero, List.set_cons_succ, i64_w, i32_w]
            rfl
          refine last_ (i := 8) (N := none) #[true, true, true, true, true, true, true, true, true] rfl rfl (by kernel_rfl) (by decide) (fun K hK => ?_)
          refine store_mid_step 58 (.tmp 34) (.tmp 33) (by rfl) rfl rfl wo.heap.size (j * 10) #[.string ⟨#[]⟩, fl row[j], .string ⟨#[]⟩, .slice none 0 0, .slice none 0 0, .bool false, .string ⟨#[]⟩, .int .u8 1, .pointer none, .pointer none] rfl rfl hth (by kernel_rfl) (by simp [Value.oneCell']) ?_
          refine hK.out _ _ ?_
          clear hK K
          refine done_ (by kernel_rfl) ?_
          go_wp2
          go_roundg (gk - 1)
          case measure => have := HKi.out; omega
          case rel =>
            obtain ⟨hMw, hvl2, hmi, hgf0, hgb, hlf0, hvl'⟩ := hX.out
            refine ⟨j + 1, by simp, ⟨by have := HKi.out; omega⟩, ⟨?_⟩, ⟨?_⟩⟩
            · have hset : (w1.setCells wo.heap.size (j * 10) (cellsN row[j])).heap[wo.heap.size]? = _ := heap_setCells wo.heap.size 58 (cellsN row[j]) (j * 10) L w1 hgf1 (by rw [hlf]; show j * 10 + 10 ≤ _; omega)
              have hput := (hMw.below hb2).put (w1 := w1.setCells wo.heap.size (j * 10) (cellsN row[j])) (by decide) hvl2 hmi (c' := part cellsN cellsZ row (j + 1)) (by
                rw [part_length _ _ _ _ (by omega)]
                refine own_of_full ?_ hgb ?_ (by simp only [maxLen]; omega)
                · rw [hset, ← part_set _ _ _ _ hj, flatten_set (part_cells _ _ _ _ 10 (fun _ => rfl) rfl) j _ (by rw [part_length _ _ _ _ (by omega)]; exact hj), hL.out]
                  rfl
                · rw [flatten_length (part_cells _ _ _ _ 10 (fun _ => rfl) rfl), part_length _ _ _ _ (by omega)]) (part_cells _ _ _ _ 10 (fun _ => rfl) rfl)
                (fun b _ hne => setCells_other _ _ _ _ _ (fun e => hne (by simp [Value.ownBlock, e])))
              rw [List.set_append_right _ _ (by omega)] at hput
              rw [hvl', Nat.sub_self] at hput
              exact hput
            · exact below_setCells hgb _ _ _ _ (below_step HBi.out hb2)
        · have e0 : decide ((j : Int) < (row.length : Int)) = false := decide_eq_false (by omega)
          have hjj : j = row.length := by have := HKi.out; omega
          subst hjj
          have hM9 := HMi.out
          rw [part_all] at hM9
          have hM9 := Aside0.mk hM9
          go_wp2
          go_roundg (go - 1)
          case measure => have := HK.out; have := hgo.out; omega
          case rel =>
            refine ⟨i + 1, vals ++ [.slice (some ⟨wo.heap.size, 0, none⟩) row.length row.length], by simp, ⟨by have := HK.out; have := hgo.out; omega⟩, ⟨?_⟩, HBi⟩
            rw [take_map _ _ _ hi, ← hrow.out]
            exact hM9.out
    · have c0 : decide ((i : Int) < (rows.length : Int)) = false := decide_eq_false (by omega)
      have h1 : rows.take i = rows := List.take_of_length_le (by omega)
      rw [h1] at HM
      have hM2 : Mat wo w.heap.size 53 58 nF.sz u2 vals ((rows.map (·.map nu)).map (fun r => some (r.map (fun x => cellsN (val x))))) := by
        have := HM.out
        show Mat wo w.heap.size 53 58 10 u2 vals _
        simp only [List.map_map]
        simpa [Function.comp_def, val, nu] using this
      have hrd : ∀ w'' : World, Mat w'' w.heap.size 53 58 nF.sz u2 vals ((rows.map (·.map nu)).map (fun r => some (r.map (fun x => cellsN (val x))))) → ∃ A c, u2 = .slice A (rows.map (·.map nu)).length c ∧ (rows.map (·.map nu)).length ≤ c ∧ (Kd.slice 58 nF).C w'' A (rows.map (·.map nu)).length (rows.map (·.map nu)) := fun w'' hm =>
        hm.reads (d := nF) (fun x => cellsN (val x)) _ (fun r hr x hx w => by
          obtain ⟨r', _, rfl⟩ := List.mem_map.1 hr
          obtain ⟨n, _, rfl⟩ := List.mem_map.1 hx
          exact cellsN_K n w)
      obtain ⟨A9, c9, hv9, hcap9, _⟩ := hrd wo hM2
      have hread : ∀ w'' : World, (∀ k, w.heap.size ≤ k → k < wo.heap.size → w''.heap[k]? = wo.heap[k]?) → (Kd.slice 58 nF).C w'' A9 rows.length (rows.map (·.map nu)) := fun w'' hk => by
        obtain ⟨A', c', hv', _, hc'⟩ := hrd w'' (hM2.move (fun k cs t hc _ hb => hk k hb (blk_lt hc)))
        rw [hv9] at hv'
        injection hv' with hA
        rw [hA]
        simpa using hc'
      subst hv9
      have hread := Aside0.mk hread
      clear hM2 hrd
      go_wp2
      go_ret
      exact ⟨⟨A9, c9, by simp, by simpa using hcap9, hread.out⟩, HB.out⟩
end Go.Proofs.Ytedbbekfpficpaa
