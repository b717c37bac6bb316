import Derived.Test.YtedbbekfpficpaaMat
set_option linter.unusedSimpArgs false
set_option linter.unusedVariables false
namespace Go.Proofs.Ytedbbekfpficpaa
open Go.RowKit Go.Proofs.YtedbbekfpficpaaW.PrintWords Go.Proofs.YtedbbekfpficpaaW.PrintLast Fl
def dFl : Kd Int := Kd.scalar fl (fun _ => rfl)
def val {β : Type} (x : Ob β) : Int := match x.1 with
  | .num n => n
  | .tab => 0
theorem info78 : (Try.prog.info? 78).map (fun i => (i.zero, i.size, i.bytes)) = some (some (.slice none 0 0), 1, 24) := by kernel_rfl
theorem info27 : (Try.prog.info? 27).map (fun i => (i.zero, i.size, i.bytes)) = some (some (.float .f64 0), 1, 8) := by kernel_rfl
/-- The cells of a number. -/
theorem cellsNum {β : Type} (d : Kd β) (w : World) (x : Ob β) (cs : List Value) (h : (kF d).K w x cs) (hx : x.1 = .num (val x)) :
    ∃ A n c, cs = [.string ⟨#[]⟩, fl (val x), .string ⟨#[]⟩, .slice none 0 0, .slice A n c, .bool false, .string ⟨#[]⟩, .int .u8 1, .pointer none, .pointer none] := by
  obtain ⟨hd, rows⟩ := x
  obtain ⟨A, c, ⟨b, ty, rfl, hL, hR⟩, _⟩ := cellsF d w hd rows cs h
  simp only at hx
  generalize val (hd, rows) = n at hx ⊢
  subst hx
  simp only [encL, encR] at hL hR
  injection hL with _ hL
  injection hL with hb _
  injection hR with _ hR
  injection hR with _ hR
  injection hR with ht _
  exact ⟨A, rows.length, c, by rw [← hb, ← ht]⟩
theorem own_full {w : World} {base g n : Nat} {el : TypeId} {sz : Nat} {cs : List Value} (h : w.ownsRow base el sz (.slice (some ⟨g, 0, none⟩) n n) n cs) : w.heap[g]? = some (.cells cs.toArray el (0, 0)) ∧ base ≤ g ∧ n ≤ maxLen := by
  rcases h.2 with ⟨hv, _⟩ | ⟨g', cap, cur, hv, hb, hg, hn, hm, hs, ht⟩
  · cases hv
  · injection hv with h1 h2 h3
    injection h1 with h1
    injection h1 with h1
    subst h1
    subst h3
    refine ⟨?_, hb, hm⟩
    have : cur.toList = cs := by rw [← ht, List.take_of_length_le (by simp; omega)]
    rw [hg, ← this]
theorem own_of_full {w : World} {base g n : Nat} {el : TypeId} {sz : Nat} {cs : List Value} (hg : w.heap[g]? = some (.cells cs.toArray el (0, 0))) (hb : base ≤ g) (hl : cs.length = n * sz) (hm : n ≤ maxLen) : w.ownsRow base el sz (.slice (some ⟨g, 0, none⟩) n n) n cs :=
  ⟨hl, .inr ⟨g, n, cs.toArray, rfl, hb, hg, Nat.le_refl _, hm, by simpa using hl, by simp [← hl]⟩⟩
theorem flatten_set1 {L : List (List Value)} (h : ∀ l ∈ L, l.length = 1) (j : Nat) (u : Value) : (L.set j [u]).flatten = L.flatten.set j u := by
  induction L generalizing j with
  | nil => simp
  | cons a L ih =>
    have ha := h a List.mem_cons_self
    match a, ha with
    | [y], _ =>
      cases j with
      | zero => simp
      | succ j => simpa using ih (fun l hl => h l (List.mem_cons_of_mem _ hl)) j
theorem made_flat (z : Value) (n : Nat) : (madeCells #[z] n).toList = (List.replicate n [z]).flatten := by
  apply List.ext_getElem
  · simp [madeCells, List.length_flatten]
  · intro i h1 h2
    have h3 : (List.replicate n [z]).flatten = List.replicate n z := by
      clear h1 h2
      induction n with
      | zero => rfl
      | succ n ih => rw [List.replicate_succ, List.flatten_cons, ih, List.replicate_succ]; rfl
    simp [madeCells, Nat.mod_one, h3]
attribute [local go_sem] run_store_float
set_option maxHeartbeats 1000000 in
set_option maxRecDepth 100000 in
theorem numMatrix {β : Type} (d : Kd β) (rows : List (List (Ob β))) (hlen : rows.length ≤ 100) (hlen2 : ∀ r ∈ rows, r.length ≤ 100) (hnum : ∀ r ∈ rows, ∀ x ∈ r, x.1 = .num (val x)) (b : Nat) (ty : Int) (A : Option Addr) (c : Nat) (q1 q2 : Option Addr) (w : World) (hR : (Kd.slice 58 (kF d)).C w A rows.length rows) :
    Calls Try.prog 32 #[.agg #[.string ⟨#[]⟩, .float .f64 b, .string ⟨#[]⟩, .slice none 0 0, .slice A rows.length c, .bool false, .string ⟨#[]⟩, .int .u8 ty, .pointer q1, .pointer q2], .bool false] w fun e w' => (∃ A c, e = .returned (.tuple #[.slice A rows.length c, .agg #[.string ⟨#[]⟩, .float .f64 0, .string ⟨#[]⟩, .slice none 0 0, .slice none 0 0, .bool false, .string ⟨#[]⟩, .int .u8 0, .pointer none, .pointer none]]) ∧
      (Kd.slice 27 dFl).C w' A rows.length (rows.map (·.map val))) ∧ Below w.heap.size w w' := by
  have HL := Aside0.mk hlen2
  have HN := Aside0.mk hnum
  have hR' := Aside0.mk hR
  clear hlen2 hnum hR
  have hl1 : (rows.length : Int) ≤ 100 := by omega
  go_enter Try.func32, Try.ntmps32
  go_wp2
  go_loopg [4, 17] rows.length (fun kq v4 v17 w' => ∃ (i : Nat) (vals : List Value), v17 = .int .i64 i ∧ Aside0 (i + kq = rows.length) ∧
    Aside0 (Mat w' w.heap.size 78 27 1 v4 vals (((rows.take i).map (fun r => some (r.map (fun x => [fl (val x)])))))) ∧
    Aside0 (w'.heap[w.heap.size + 1]? = some (.cells #[.string ⟨#[]⟩, .float .f64 0, .string ⟨#[]⟩, .slice none 0 0, .slice none 0 0, .bool false, .string ⟨#[]⟩, .int .u8 0, .pointer none, .pointer none] 58 (0, 0))) ∧ Aside0 (Below w.heap.size w w'))
  case atStart =>
    refine ⟨0, [], rfl, ⟨by omega⟩, ⟨by simpa using Mat.nil _ _ _ _ _⟩, ⟨?_⟩, ⟨?_⟩⟩
    · repeat (first | (refine blk_at ?_; simp; done) | refine blk_alloc ?_ _)
    · repeat (first | exact Below.refl _ _ | refine Below.alloc ?_ (by simp <;> omega) _)
  case round =>
    obtain ⟨i, vals, rfl, HK, HM, HR, HB⟩ := hrel
    obtain ⟨wo, rfl⟩ : ∃ wo : World, wo = wr := ⟨_, rfl⟩
    obtain ⟨go, hgo⟩ : ∃ go : Nat, Aside0 (go = gk) := ⟨_, ⟨rfl⟩⟩
    by_cases hi : i < rows.length
    · have c0 : decide ((i : Int) < (rows.length : Int)) = true := decide_eq_true (by omega)
      have b1 : (0 : Int) ≤ (i : Int) := by omega
      have b2 : (i : Int) < (rows.length : Int) := by omega
      obtain ⟨ad, cs, rfl, hcl, ⟨A1, c1, rfl, hl', hKr⟩, hce⟩ := Kd.C_get hR'.out (rows[i]) (i : Int) b1 b2
      rw [getD_nat rows i hi] at hKr hce
      have kr : wo.cell? (ad.add i) = some (.slice A1 rows[i].length c1) := pw_cell_below HB.out (by simpa [Kd.slice] using hce 0 _ rfl)
      obtain ⟨row, hrow⟩ : ∃ row, Aside0 (row = rows[i]) := ⟨_, ⟨rfl⟩⟩
      rw [← hrow.out] at kr hKr
      have hmem : row ∈ rows := hrow.out ▸ List.getElem_mem hi
      have hNr := Aside0.mk (HN.out row hmem)
      have hl2 : row.length ≤ 100 := HL.out row hmem
      have hl3 : (row.length : Int) ≤ 100 := by omega
      have hKr' := Aside0.mk hKr
      clear hcl hmem hce hKr hl'
      have hvl : vals.length = i := by have := HM.out.len; simp at this; omega
      have hvl := Aside0.mk hvl
      have hmk := print_make_of (P := Try.prog) 78 27 (.float .f64 0) 8 Try.underlying78 info27 rfl (by decide) row.length (by omega)
      go_wp2_with (first
        | ((with_reducible refine gate_builtin (b := .append) (xs := #[.tmp 30, .tmp 34]) rfl ?_); at_builtin
           go_loud (refine print_append (w0 := w) w.heap.size rfl (.tmp 30) (.tmp 34) 75 78 _ 24 rfl Try.underlying75 info78 rfl (by decide) u4 vals (.slice (some ⟨wo.heap.size, 0, none⟩) row.length row.length) rfl (by show Value.slice (some ⟨wo.heap.size + 1, 0, none⟩) 1 1 = _; simp) rfl (HM.out.own.alloc _) (HB.out.alloc HB.out.size _) (by have := HB.out.size; simp; omega) (by have := hvl.out; omega) ?_)
           go_loud (
             intro v1 w2 ho hb hg hat
             have hg9 := (World.grownBy_alloc wo _ u4.ownBlock).trans hg
             have hgb : w2.heap[wo.heap.size]? = some (.cells (madeCells #[Value.float .f64 0] row.length) 27 (0, 0)) := (hg.block _ (by simp) (by
               rcases HM.out.own.2 with ⟨hv, _⟩ | ⟨g', cap, cur, hv, _, hg', _⟩
               · rw [hv]; simp [Value.ownBlock]
               · rw [hv]; intro e; have := blk_lt hg'; simp [Value.ownBlock] at e; omega)).trans (heap_alloc_new _ _)
             have hgb' : w2.heap[wo.heap.size]? = some (.cells (part (fun x => [fl (val x)]) [Value.float .f64 0] row 0).flatten.toArray 27 (0, 0)) := by rw [hgb, part_zero, ← made_flat]
             have hrow0 : w2.ownsRow w.heap.size 27 1 (.slice (some ⟨wo.heap.size, 0, none⟩) row.length row.length) (part (fun x => [fl (val x)]) [Value.float .f64 0] row 0).length (part (fun x => [fl (val x)]) [Value.float .f64 0] row 0).flatten := by
               rw [part_length _ _ _ _ (Nat.zero_le _)]
               exact own_of_full hgb' HB.out.size (by rw [flatten_length (part_cells _ _ _ _ 1 (fun _ => rfl) rfl), part_length _ _ _ _ (Nat.zero_le _)]) (by simp only [maxLen]; omega)
             have hMat := HM.out.snoc (by decide) (some (part (fun x => [fl (val x)]) [Value.float .f64 0] row 0)) ho hg9 (fun c hc => by
               injection hc with hc
               subst hc
               exact ⟨hrow0, part_cells _ _ _ _ 1 (fun _ => rfl) rfl, fun b hb => by simp [Value.ownBlock] at hb; omega⟩)
             have hR2 := (hg9.block _ (blk_lt HR.out) (own_ne HM.out.own HR.out (by decide))).trans HR.out
             obtain ⟨A4, cap4, rfl, hcap4, hread⟩ := hMat.shape
             obtain ⟨h, rfl, kh, _, hh, hhc⟩ := hread i (.slice (some ⟨wo.heap.size, 0, none⟩) row.length row.length) (by rw [← hvl.out]; simp)
             obtain ⟨n4, hn4⟩ : ∃ n4, Aside0 (n4 = (vals ++ [Value.slice (some ⟨wo.heap.size, 0, none⟩) row.length row.length]).length) := ⟨_, ⟨rfl⟩⟩
             rw [← hn4.out] at hMat ⊢
             have hn5 : (i : Int) < (n4 : Int) := by have h1 := hn4.out; have h2 := hvl.out; rw [List.length_append, List.length_singleton] at h1; omega
             have hMat := Aside0.mk hMat; have hR2 := Aside0.mk hR2; have hb := Aside0.mk hb; have hsz2 := Aside0.mk (hg9.size)
             clear ho hg hat hg9 hgb hgb' hrow0 hread kh hhc)))
      go_loopg [38] row.length (fun kq v38 w' => ∃ (j : Nat), v38 = .int .i64 j ∧ Aside0 (j + kq = row.length) ∧
        Aside0 (Mat w' w.heap.size 78 27 1 (.slice (some ⟨h, 0, none⟩) n4 cap4) (vals ++ [.slice (some ⟨wo.heap.size, 0, none⟩) row.length row.length]) ((rows.take i).map (fun r => some (r.map (fun x => [fl (val x)]))) ++ [some (part (fun x => [fl (val x)]) [Value.float .f64 0] row j)])) ∧
        Aside0 (w'.heap[w.heap.size + 1]? = some (.cells #[.string ⟨#[]⟩, .float .f64 0, .string ⟨#[]⟩, .slice none 0 0, .slice none 0 0, .bool false, .string ⟨#[]⟩, .int .u8 0, .pointer none, .pointer none] 58 (0, 0))) ∧ Aside0 (Below w.heap.size w w'))
      case atStart => exact ⟨0, rfl, ⟨by omega⟩, hMat, hR2, hb⟩
      case round =>
        clear hMat hR2 hb
        obtain ⟨j, rfl, HKi, HMi, HRi, HBi⟩ := hrel
        by_cases hj : j < row.length
        · have e0 : decide ((j : Int) < (row.length : Int)) = true := decide_eq_true (by omega)
          have e1 : (0 : Int) ≤ (j : Int) := by omega
          have e2 : (j : Int) < (row.length : Int) := by omega
          obtain ⟨ae, cs, rfl, hcl, hKx, hcell⟩ := Kd.C_get (Kd.C_below hKr'.out HBi.out) (row[j]) (j : Int) e1 e2
          rw [getD_nat row j hj] at hKx
          obtain ⟨A2, n2, c2, rfl⟩ := cellsNum d _ _ _ hKx (hNr.out _ (List.getElem_mem hj))
          have hcell' : ∀ q u, [Value.string ⟨#[]⟩, fl (val row[j]), .string ⟨#[]⟩, .slice none 0 0, .slice A2 n2 c2, .bool false, .string ⟨#[]⟩, .int .u8 1, .pointer none, .pointer none][q]? = some u → wr.cell? (ae.add (j * 10 + q)) = some u := fun q u hu => hcell q u hu
          have hcell' := Aside0.mk hcell'
          obtain ⟨o, ho⟩ : ∃ o, Aside0 (o = Obj.cells #[.string ⟨#[]⟩, fl (val row[j]), .string ⟨#[]⟩, .slice none 0 0, .slice A2 n2 c2, .bool false, .string ⟨#[]⟩, .int .u8 1, .pointer none, .pointer none] 58) := ⟨_, ⟨rfl⟩⟩
          have hMw := HMi.out.below (((Below.refl wr.heap.size wr).alloc (Nat.le_refl _) o).drew)
          have hvl' : ((rows.take i).map (fun r => some (r.map (fun x => [fl (val x)])))).length = i := by simp; omega
          have hvl2 : (vals ++ [Value.slice (some ⟨wo.heap.size, 0, none⟩) row.length row.length])[i]? = some (.slice (some ⟨wo.heap.size, 0, none⟩) row.length row.length) := by rw [← hvl.out]; simp
          have hmi : ((rows.take i).map (fun r => some (r.map (fun x => [fl (val x)]))) ++ [some (part (fun x => [fl (val x)]) [Value.float .f64 0] row j)])[i]? = some (some (part (fun x => [fl (val x)]) [Value.float .f64 0] row j)) := by
            rw [List.getElem?_append_right (by omega), hvl', Nat.sub_self]; rfl
          have hrw := hMw.rows i _ _ hvl2 hmi
          rw [part_length _ _ _ _ (by omega)] at hrw
          obtain ⟨hgf, hgb, hgm⟩ := own_full hrw
          have hlf : (part (fun x => [fl (val x)]) [Value.float .f64 0] row j).flatten.length = row.length := by rw [flatten_length (part_cells _ _ _ _ 1 (fun _ => rfl) rfl), part_length _ _ _ _ (by omega)]; omega
          obtain ⟨old, hold⟩ : ∃ old, (part (fun x => [fl (val x)]) [Value.float .f64 0] row j).flatten[j]? = some old := ⟨_, List.getElem?_eq_getElem (by omega)⟩
          have kst : (wr.alloc o).drew.cell? ⟨wo.heap.size, j, none⟩ = some old := (blk_cell hgf j).trans (by simpa using hold)
          have kfz : (wr.alloc o).drew.frozen? ⟨wo.heap.size, j, none⟩ = false := blk_frozen hgf j
          have kh : (wr.alloc o).drew.cell? ⟨h, i, none⟩ = some (.slice (some ⟨wo.heap.size, 0, none⟩) row.length row.length) := by
            obtain ⟨A', cap', hv, _, hrd⟩ := hMw.shape
            obtain ⟨h', hA, hc, _⟩ := hrd i _ hvl2
            injection hv with hv
            rw [hA] at hv
            injection hv with hv
            injection hv with hv
            rw [hv]; exact hc
          have kq : (wr.alloc o).drew.cell? ⟨wr.heap.size, 1, none⟩ = some (fl (val row[j])) := by
            rw [ho.out]; exact blk_cell (heap_alloc_new _ _) 1
          have hX := Aside0.mk (And.intro hMw (And.intro hvl2 (And.intro hmi (And.intro hgf (And.intro hgb (And.intro hlf hvl'))))))
          clear hMw hvl' hvl2 hmi hrw hgf hgb hgm hlf hold hcl hcell hKx
          go_wp2_with (first
            | (refine wpList_loadEl rfl 58 (.tmp 41) rfl ae (j * 10) rfl [Value.string ⟨#[]⟩, fl (val row[j]), .string ⟨#[]⟩, .slice none 0 0, .slice A2 n2 c2, .bool false, .string ⟨#[]⟩, .int .u8 1, .pointer none, .pointer none] _ hcell'.out Try.underlying58 rfl (by kernel_rfl) ?_))
          rw [← ho.out]
          refine start_ (n := 9) (S := fun w' => w'.cell? ⟨h, i, none⟩ = some (.slice (some ⟨wo.heap.size, 0, none⟩) row.length row.length) ∧ w'.cell? ⟨wr.heap.size, 1, none⟩ = some (fl (val row[j]))) (ds := [8]) #[false, false, false, false, false, false, false, false, false] (by kernel_rfl) rfl rfl ⟨kh, kq⟩ (fun hHeld => ?_)
          refine pure_ (i := 0) (N := some 47) (v := ?_) (a' := ?_) #[true, false, false, false, false, false, false, false, false] rfl rfl (by kernel_rfl) (fun _ _ _ h => h) (Or.inl ⟨by rfl, ?_⟩) ?_ ?_
          rotate_left
          · intro w'
            go_simp
            with_reducible rfl
          rotate_left
          · simp only [Act.put, List.setIfInBounds_toArray, List.set_cons_zero, List.set_cons_succ, i64_w, i32_w]
            rfl
          refine pure_ (i := 1) (N := some 48) (v := ?_) (a' := ?_) #[true, true, false, false, false, false, false, false, false] rfl rfl (by kernel_rfl) (fun _ _ _ h => h) (Or.inl ⟨by rfl, ?_⟩) ?_ ?_
          rotate_left
          · intro w'
            go_simp
            with_reducible rfl
          rotate_left
          · simp only [Act.put, List.setIfInBounds_toArray, List.set_cons_zero, List.set_cons_succ, i64_w, i32_w]
            rfl
          refine pure_ (i := 2) (N := some 49) (v := ?_) (a' := ?_) #[true, true, true, false, false, false, false, false, false] rfl rfl (by kernel_rfl) (fun _ _ _ h => h) (Or.inl ⟨by rfl, ?_⟩) ?_ ?_
          rotate_left
          · intro w'
            go_simp
            with_reducible rfl
          rotate_left
          · simp only [Act.put, List.setIfInBounds_toArray, List.set_cons_zero, List.set_cons_succ, i64_w, i32_w]
            rfl
          refine pure_ (i := 4) (N := some 51) (v := ?_) (a' := ?_) #[true, true, true, false, true, false, false, false, false] rfl rfl (by kernel_rfl) (fun _ _ _ h => h) (Or.inl ⟨by rfl, ?_⟩) ?_ ?_
          rotate_left
          · intro w'
            go_simp
            with_reducible rfl
          rotate_left
          · simp only [Act.put, List.setIfInBounds_toArray, List.set_cons_zero, List.set_cons_succ, i64_w, i32_w]
            rfl
          refine pure_ (i := 5) (N := some 52) (v := ?_) (a' := ?_) #[true, true, true, false, true, true, false, false, false] rfl rfl (by kernel_rfl) (fun _ _ _ h => h) (Or.inl ⟨by rfl, ?_⟩) ?_ ?_
          rotate_left
          · intro w'
            go_simp
            with_reducible rfl
          rotate_left
          · simp only [Act.put, List.setIfInBounds_toArray, List.set_cons_zero, List.set_cons_succ, i64_w, i32_w]
            rfl
          refine take_ (i := 3) (N := some 50) (v := ?_) (a' := ?_) #[true, true, true, true, true, true, false, false, false] rfl rfl (by kernel_rfl) (fun _ _ _ h => h) (Or.inl ⟨by rfl, ?_⟩) hHeld ?_ ?_
          rotate_left
          · rintro w' ⟨s0, s1⟩
            go_simp
            with_reducible rfl
          rotate_left
          · simp only [Act.put, List.setIfInBounds_toArray, List.set_cons_zero, List.set_cons_succ, i64_w, i32_w]
            rfl
          refine take_ (i := 6) (N := some 53) (v := ?_) (a' := ?_) #[true, true, true, true, true, true, true, false, false] rfl rfl (by kernel_rfl) (fun _ _ _ h => h) (Or.inl ⟨by rfl, ?_⟩) hHeld ?_ ?_
          rotate_left
          · rintro w' ⟨s0, s1⟩
            go_simp
            with_reducible rfl
          rotate_left
          · simp only [Act.put, List.setIfInBounds_toArray, List.set_cons_zero, List.set_cons_succ, i64_w, i32_w]
            rfl
          refine pure_ (i := 7) (N := some 54) (v := ?_) (a' := ?_) #[true, true, true, true, true, true, true, true, false] rfl rfl (by kernel_rfl) (fun _ _ _ h => h) (Or.inl ⟨by rfl, ?_⟩) ?_ ?_
          rotate_left
          · intro w'
            go_simp
            with_reducible rfl
          rotate_left
          · simp only [Act.put, List.setIfInBounds_toArray, List.set_cons_zero, List.set_cons_succ, i64_w, i32_w]
            rfl
          refine last_ (i := 8) (N := none) #[true, true, true, true, true, true, true, true, true] rfl rfl (by kernel_rfl) (by decide) (fun K hK => ?_)
          refine skip_ (w1 := ?_) (by rfl) rfl ?_ ?_
          rotate_left
          · go_simp
            rfl
          refine hK.out _ _ ?_
          clear hK K
          refine done_ (by kernel_rfl) ?_
          go_wp2
          go_roundg (gk - 1)
          case measure => have := HKi.out; omega
          case rel =>
            obtain ⟨hMw, hvl2, hmi, hgf, hgb, hlf, hvl'⟩ := hX.out
            have hbw : Below wr.heap.size wr (wr.alloc o).drew := ((Below.refl wr.heap.size wr).alloc (Nat.le_refl _) o).drew
            refine ⟨j + 1, by simp, ⟨by have := HKi.out; omega⟩, ⟨?_⟩, ⟨?_⟩, ⟨?_⟩⟩
            · have hset : ((wr.alloc o).setCell ⟨wo.heap.size, j, none⟩ (fl (val row[j]))).drew.heap[wo.heap.size]? = _ := blk_set hgf j (fl (val row[j]))
              have hput := hMw.put (w1 := ((wr.alloc o).setCell ⟨wo.heap.size, j, none⟩ (fl (val row[j]))).drew) (by decide) hvl2 hmi (c' := part (fun x => [fl (val x)]) [Value.float .f64 0] row (j + 1)) (by
                rw [part_length _ _ _ _ (by omega)]
                refine own_of_full ?_ hgb ?_ (by simp only [maxLen]; omega)
                · rw [hset, ← part_set _ _ _ _ hj, flatten_set1 (part_cells _ _ _ _ 1 (fun _ => rfl) rfl)]
                  simp
                · rw [flatten_length (part_cells _ _ _ _ 1 (fun _ => rfl) rfl), part_length _ _ _ _ (by omega)]) (part_cells _ _ _ _ 1 (fun _ => rfl) rfl)
                (fun b _ hne => Below.heap_setCell (wr.alloc o) _ _ b (fun e => hne (by simp [Value.ownBlock, e])))
              rw [List.set_append_right _ _ (by omega)] at hput
              rw [hvl'] at hput
              simpa using hput
            · exact blk_far (w := wr.alloc o) (blk_alloc HRi.out _) (by have := HB.out.size; have := blk_lt HR.out; show w.heap.size + 1 ≠ wo.heap.size; omega) _
            · exact (Below.setCell (below_step HBi.out ((Below.refl wr.heap.size wr).alloc (Nat.le_refl _) o)) hgb _).drew
        · have e0 : decide ((j : Int) < (row.length : Int)) = false := decide_eq_false (by omega)
          have hjj : j = row.length := by have := HKi.out; omega
          subst hjj
          have hM9 := HMi.out
          rw [part_all] at hM9
          go_wp2
          go_roundg (go - 1)
          case measure => have := HK.out; have := hgo.out; omega
          case rel =>
            refine ⟨i + 1, vals ++ [.slice (some ⟨wo.heap.size, 0, none⟩) row.length row.length], by simp, ⟨by have := HK.out; have := hgo.out; omega⟩, ⟨?_⟩, HRi, HBi⟩
            rw [take_map _ _ _ hi, ← hrow.out]
            exact hM9
    · have c0 : decide ((i : Int) < (rows.length : Int)) = false := decide_eq_false (by omega)
      have h1 : rows.take i = rows := List.take_of_length_le (by omega)
      rw [h1] at HM
      have hM2 : Mat wo w.heap.size 78 27 dFl.sz u4 vals ((rows.map (·.map val)).map (fun r => some (r.map (fun n => [fl n])))) := by
        have := HM.out
        show Mat wo w.heap.size 78 27 1 u4 vals _
        simp only [List.map_map]
        simpa [Function.comp_def] using this
      obtain ⟨A9, c9, rfl, _, hread⟩ := hM2.reads (d := dFl) (fun n => [fl n]) _ (fun _ _ _ _ _ => rfl)
      have hread := Aside0.mk hread
      clear hM2
      go_wp2
      refine bodyPost_ret (results_tc rfl _ _ (w.heap.size + 1) 58 #[.string ⟨#[]⟩, .float .f64 0, .string ⟨#[]⟩, .slice none 0 0, .slice none 0 0, .bool false, .string ⟨#[]⟩, .int .u8 0, .pointer none, .pointer none] (0, 0) _ rfl HR.out Try.underlying58 rfl (by kernel_rfl)) rfl ?_
      refine ⟨⟨A9, c9, ?_, by simpa using hread.out⟩, HB.out⟩
      simp
end Go.Proofs.Ytedbbekfpficpaa
