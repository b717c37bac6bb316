import Derived.Test.YtedbbekfpficpaaMul
set_option linter.unusedSimpArgs false
set_option linter.unusedVariables false
namespace Go.Proofs.Ytedbbekfpficpaa
open Go.RowKit Go.Proofs.YtedbbekfpficpaaW.PrintWords Go.Proofs.YtedbbekfpficpaaW.PrintLast Fl
/-- The range of cells that a matrix of so many columns and rows bears. -/
def boxOf (cols rows : Nat) : Value := .agg #[.int .i64 1, .int .i64 1, .string ⟨#[83, 104, 101, 101, 116, 49]⟩, .int .i64 cols, .int .i64 rows, .string ⟨#[83, 104, 101, 101, 116, 49]⟩]
/-- A number as the machine makes it: ten cells and nothing behind them. -/
def dN : Kd Int := flat 10 cellsN (fun _ => rfl) (by intro n u hu; simp only [cellsN, List.mem_cons, List.not_mem_nil, or_false] at hu; rcases hu with rfl | rfl | rfl | rfl | rfl | rfl | rfl | rfl | rfl | rfl <;> rfl)
theorem dN_nF {w : World} {A : Option Addr} {n : Nat} {xs : List Int} (h : dN.C w A n xs) : nF.C w A n (xs.map nu) := by
  refine ⟨by simpa using h.1, h.2.1, fun hp => ?_⟩
  obtain ⟨ad, e, hc⟩ := h.2.2 hp
  refine ⟨ad, e, fun j p hj => ?_⟩
  rw [List.getElem?_map] at hj
  obtain ⟨x, hx, rfl⟩ := Option.map_eq_some_iff.1 hj
  obtain ⟨c, hl, hk, hcell⟩ := hc j x hx
  obtain rfl : c = cellsN x := hk
  exact ⟨_, rfl, cellsN_K x w, hcell⟩
theorem dN_nF2 {w : World} {A : Option Addr} {n : Nat} {m : List (List Int)} (h : (Kd.slice 58 dN).C w A n m) : (Kd.slice 58 nF).C w A n (m.map (·.map nu)) := by
  refine ⟨by simpa using h.1, h.2.1, fun hp => ?_⟩
  obtain ⟨ad, e, hc⟩ := h.2.2 hp
  refine ⟨ad, e, fun j p hj => ?_⟩
  rw [List.getElem?_map] at hj
  obtain ⟨x, hx, rfl⟩ := Option.map_eq_some_iff.1 hj
  obtain ⟨c, hl, ⟨A', c', rfl, hle, hC⟩, hcell⟩ := hc j x hx
  exact ⟨_, rfl, ⟨A', c', by rw [List.length_map], by rw [List.length_map]; exact hle, by rw [List.length_map]; exact dN_nF hC⟩, hcell⟩
theorem take_one {α : Type} (xs : List α) (i : Nat) (hi : i < xs.length) : xs.take (i + 1) = xs.take i ++ [xs[i]] := by
  rw [List.take_add_one, List.getElem?_eq_getElem hi]; rfl
/-- A number among the arguments. -/
def cellsA (n : Int) (A : Option Addr) (k c : Nat) : List Value := [.int .i64 1, fl n, .string ⟨#[]⟩, .slice A k c]
theorem cellsA_of (w : World) (n : Int) (cs : List Value) (h : nA.K w (nu n) cs) : ∃ A k c, cs = cellsA n A k c := by
  obtain ⟨ca, cb, rfl, hca, A1, cc, rfl, hlr, hR⟩ := h
  have hca' : ca = [.int .i64 1, fl n, .string ⟨#[]⟩] := hca
  subst hca'
  exact ⟨_, _, _, rfl⟩
attribute [local go_sem] run_store_float
set_option maxHeartbeats 1000000 in
set_option maxRecDepth 100000 in
theorem innerNum (n : Int) (h : n.natAbs < 2 ^ 53) (A : Option Addr) (m c : Nat) (w : World) :
    Calls Try.prog 37 #[.agg #[.int .i64 1, fl n, .string ⟨#[]⟩, .slice A m c]] w fun e w' => e = .returned (.agg #[.string ⟨#[]⟩, fl n, .string ⟨#[]⟩, .slice none 0 0, .slice none 0 0, .bool false, .string ⟨#[]⟩, .int .u8 1, .pointer none, .pointer none]) ∧ Below w.heap.size w w' := by
  go_enter Try.func37, Try.ntmps37
  go_wp2_with (first
    | (go_at_call 31; refine (newNumber n h _).mono ?_; rintro e w1 ⟨rfl, hb1⟩
       have kR := (hb1.block (w.heap.size + 1) (by simp <;> omega)).trans (show _ = some (Obj.cells #[.string ⟨#[]⟩, .float .f64 0, .string ⟨#[]⟩, .slice none 0 0, .slice none 0 0, .bool false, .string ⟨#[]⟩, .int .u8 0, .pointer none, .pointer none] 58 (0, 0)) by repeat (first | (refine blk_at ?_; simp; done) | refine blk_alloc ?_ _))
       have kR := Aside0.mk kR
       have hb1 := Aside0.mk hb1)
    | (refine wpList_store_row rfl 58 (.tmp 2) (.tmp 16) rfl (w.heap.size + 1) _ rfl rfl 58 _ kR.out (by kernel_rfl) rfl (by simp [Value.oneCell']) ?_))
  refine bodyPost_ret (results_cell_row rfl _ _ (w.heap.size + 1) 58 #[.string ⟨#[]⟩, fl n, .string ⟨#[]⟩, .slice none 0 0, .slice none 0 0, .bool false, .string ⟨#[]⟩, .int .u8 1, .pointer none, .pointer none] (0, 0) _ rfl (setRow_heap _ _ _ _ _ _ kR.out) Try.underlying58 rfl (by kernel_rfl)) rfl ?_
  have hb2 : Below w.heap.size w w1 := below_then (by repeat (first | exact Below.refl _ _ | refine Below.alloc ?_ (by simp <;> omega) _)) (by simp <;> omega) hb1.out
  exact ⟨rfl, Below.setRow hb2 (by omega) _⟩
/-- A table as an argument of the machine: its numbers, and the range of its cells. -/
def ArgAt (m : List (List Int)) (r0 : Nat) (A : Option Addr) (c ga gb eb : Nat) (w : World) : Prop :=
  (Kd.slice 58 dN).C w A m.length m ∧ m.length ≤ c ∧ isL w ga ga ga 0 ∧ isL w gb eb eb 1 ∧ isE w eb gb gb gb (.iface 96 (boxOf r0 m.length))
set_option maxHeartbeats 2000000 in
set_option maxRecDepth 100000 in
theorem innerTab (m : List (List Int)) (r0 : Nat) (h0 : 1 ≤ m.length) (hlen : m.length ≤ 100) (hlen2 : ∀ r ∈ m, r.length ≤ 100) (hr0 : ∀ r, m[0]? = some r → r.length = r0) (hnum : ∀ r ∈ m, ∀ x ∈ r, x.natAbs < 2 ^ 53) (A : Option Addr) (c : Nat) (w : World) (hC : (Kd.slice 46 nA).C w A m.length (m.map (·.map nu))) :
    Calls Try.prog 37 #[.agg #[.int .i64 5, fl 0, .string ⟨#[]⟩, .slice A m.length c]] w fun e w' => (∃ A' c' ga gb eb, e = .returned (.agg #[.string ⟨#[]⟩, fl 0, .string ⟨#[]⟩, .slice none 0 0, .slice A' m.length c', .bool false, .string ⟨#[]⟩, .int .u8 4, pt ga, pt gb]) ∧
      ∀ w'' : World, (∀ k, w.heap.size ≤ k → k < w'.heap.size → w''.heap[k]? = w'.heap[k]?) → ArgAt m r0 A' c' ga gb eb w'') ∧ Below w.heap.size w w' := by
  have HL := Aside0.mk hlen2
  have HN := Aside0.mk hnum
  have hR := Aside0.mk hC
  have hr0 := Aside0.mk hr0
  clear hlen2 hnum hC
  have hl1 : (m.length : Int) ≤ 100 := by omega
  go_enter Try.func37, Try.ntmps37
  go_wp2
  go_loopg [3, 40] m.length (fun kq v3 v40 w' => ∃ (i : Nat), v40 = .int .i64 i ∧ Aside0 (i + kq = m.length) ∧
    Aside0 ((Kd.slice 58 dN).R 53 w' (w.heap.size + 1 + 1) (fun _ => True) v3 (m.take i)) ∧ Aside0 (w'.heap[w.heap.size + 1]? = some (.cells #[.string ⟨#[]⟩, .float .f64 0, .string ⟨#[]⟩, .slice none 0 0, .slice none 0 0, .bool false, .string ⟨#[]⟩, .int .u8 0, .pointer none, .pointer none] 58 (0, 0))) ∧ Aside0 (w.heap.size + 1 + 1 ≤ w'.heap.size) ∧ Aside0 (Below w.heap.size w w'))
  case atStart =>
    refine ⟨0, rfl, ⟨by omega⟩, ⟨by simpa using Kd.R_nil _ _ _ _ _⟩, ⟨?_⟩, ⟨by simp⟩, ⟨?_⟩⟩
    · repeat (first | (refine blk_at ?_; simp; done) | refine blk_alloc ?_ _)
    · repeat (first | exact Below.refl _ _ | refine Below.alloc ?_ (by simp <;> omega) _)
  case round =>
    obtain ⟨i, rfl, HK, HO, HR, HS, HB⟩ := hrel
    obtain ⟨wo, rfl⟩ : ∃ wo : World, wo = wr := ⟨_, rfl⟩
    obtain ⟨go, hgo⟩ : ∃ go : Nat, Aside0 (go = gk) := ⟨_, ⟨rfl⟩⟩
    obtain ⟨o3, ho3⟩ : ∃ o3 : Value, Aside0 (o3 = u3) := ⟨_, ⟨rfl⟩⟩
    by_cases hi : i < m.length
    · have c0 : decide ((i : Int) < (m.length : Int)) = true := decide_eq_true (by omega)
      have b1 : (0 : Int) ≤ (i : Int) := by omega
      have b2 : (i : Int) < (m.length : Int) := by omega
      obtain ⟨ad, cs, rfl, hcl, ⟨A1, c1, rfl, hl', hKr⟩, hce⟩ := Kd.C_get hR.out [] (i : Int) b1 b2
      obtain ⟨row, hrow⟩ : ∃ row, Aside0 (m[i]? = some row) := ⟨_, ⟨List.getElem?_eq_getElem hi⟩⟩
      have hgd : (m.map (·.map nu)).getD (i : Int).toNat [] = row.map nu := by simp [List.getD_eq_getElem?_getD, hrow.out]
      rw [hgd] at hKr hce
      simp only [List.length_map] at hKr hce
      have kr : wo.cell? (ad.add i) = some (.slice A1 row.length c1) := pw_cell_below HB.out (by simpa [Kd.slice] using hce 0 _ rfl)
      have hmem : row ∈ m := List.mem_of_getElem? hrow.out
      have hNr := Aside0.mk (HN.out row hmem)
      have hl2 : row.length ≤ 100 := HL.out row hmem
      have hl3 : (row.length : Int) ≤ 100 := by omega
      have hKr := Aside0.mk hKr
      clear hcl hmem hce hgd hl'
      go_wp2
      go_loopg [6, 46] row.length (fun kq v6 v46 w' => ∃ (j : Nat), v46 = .int .i64 j ∧ Aside0 (j + kq = row.length) ∧ Aside0 (dN.R 58 w' wo.heap.size (fun _ => True) v6 (row.take j)) ∧ Aside0 (Below wo.heap.size wo w'))
      case atStart => exact ⟨0, rfl, ⟨by omega⟩, ⟨by simpa using Kd.R_nil _ _ _ _ _⟩, ⟨Below.refl _ _⟩⟩
      case round =>
        obtain ⟨j, rfl, HKi, HOi, HBi⟩ := hrel
        by_cases hj : j < row.length
        · have e0 : decide ((j : Int) < (row.length : Int)) = true := decide_eq_true (by omega)
          have e1 : (0 : Int) ≤ (j : Int) := by omega
          have e2 : (j : Int) < (row.length : Int) := by omega
          obtain ⟨ae, cs, rfl, hcl, hKx, hcell⟩ := Kd.C_get (Kd.C_below hKr.out (below_step HB.out HBi.out)) (nu 0) (j : Int) e1 e2
          have hgd : (row.map nu).getD (j : Int).toNat (nu 0) = nu row[j] := by simp [List.getD_eq_getElem?_getD, List.getElem?_eq_getElem hj]
          rw [hgd] at hKx
          obtain ⟨A2, n2, c2, rfl⟩ := cellsA_of _ _ _ hKx
          have hcell : ∀ q u, [Value.int .i64 1, fl row[j], .string ⟨#[]⟩, .slice A2 n2 c2][q]? = some u → wr.cell? (ae.add (j * 4 + q)) = some u := fun q u hu => hcell q u hu
          have hcell := Aside0.mk hcell
          have hx := Aside0.mk (hNr.out row[j] (List.getElem_mem hj))
          clear hcl hKx hgd
          go_wp2_with (first
            | (refine wpList_loadEl rfl 46 (.tmp 48) rfl ae (j * 4) rfl [Value.int .i64 1, fl row[j], .string ⟨#[]⟩, .slice A2 n2 c2] _ hcell.out Try.underlying46 rfl (by kernel_rfl) ?_)
            | (refine wpList_load_row rfl 46 (.tmp 8) rfl _ rfl 46 _ (0, 0) _ (heap_alloc_new _ _) Try.underlying46 rfl (by kernel_rfl) ?_)
            | (go_at_call 37; refine (innerNum row[j] hx.out A2 n2 c2 _).mono ?_; rintro e w1 ⟨rfl, hb1⟩
               have hb1 := Aside0.mk (below_then ((Below.refl wr.heap.size wr).alloc (Nat.le_refl _) _) (by simp) hb1))
            | ((with_reducible refine gate_builtin (b := .append) (xs := #[.tmp 50, .tmp 53]) rfl ?_); at_builtin
               go_loud (refine appendMade dN (w0 := wo) (wr := wr) (B := wo.heap.size) rfl (.tmp 50) (.tmp 53) 53 58 _ 136 rfl Try.underlying53 info58 rfl (by decide) (by decide) u6 (row.take j) row[j] (cellsN row[j]) (fun _ => True) rfl rfl rfl HOi.out HBi.out HBi.out.size hb1.out (fun _ _ => trivial) ?aL ?_)
               (case aL => rw [List.length_take]; omega)
               intro v1 w2 ho hb hg hat; rw [← take_one row j hj] at ho; have ho := Aside0.mk ho; have hb := Aside0.mk hb; clear hg hat))
          go_roundg (gk - 1)
          case measure => have := HKi.out; omega
          case rel => exact ⟨j + 1, by simp, ⟨by have := HKi.out; omega⟩, ho, hb⟩
        · have e0 : decide ((j : Int) < (row.length : Int)) = false := decide_eq_false (by omega)
          have h1 : row.take j = row := List.take_of_length_le (by omega)
          rw [h1] at HOi
          obtain ⟨A3, n3, c3, rfl⟩ := R_shape HOi.out
          have hM := Aside0.mk (show (Kd.slice 58 dN).M wr wo.heap.size (fun _ => True) row [.slice A3 n3 c3] from ⟨_, rfl, HOi.out⟩)
          have HR' := Aside0.mk (blk_below HR.out HBi.out)
          have HS' := Aside0.mk (Nat.le_trans HS.out HBi.out.size)
          go_wp2_with (first
            | ((with_reducible refine gate_builtin (b := .append) (xs := #[.tmp 56, .tmp 58]) rfl ?_); at_builtin
               go_loud (refine appendMade (Kd.slice 58 dN) (w0 := wo) (wr := wo) (B := w.heap.size + 1 + 1) rfl (.tmp 56) (.tmp 58) 54 53 _ 24 rfl Try.underlying54 info53 rfl Nat.zero_lt_one (by decide) u3 (m.take i) row [.slice A3 n3 c3] (fun _ => True) rfl rfl hM.out HO.out (Below.refl _ _) HS.out HBi.out (fun _ _ => trivial) ?aL ?_)
               (case aL => rw [List.length_take]; omega)
               intro v1 w2 ho hb hg hat
               have hi' := List.getElem?_eq_some_iff.1 hrow.out
               obtain ⟨hi'', hi3⟩ := hi'
               rw [← hi3, ← take_one _ _ hi] at ho; have ho := Aside0.mk ho; have hb2 := Aside0.mk (HB.out.trans (hb.mono (by omega)))
               have hR2 := Aside0.mk (blk_of_below HR.out hb (by omega)); have hz := Aside0.mk (Nat.le_trans HS.out hb.size); clear hb hg hat hi3 hi''))
          go_roundg (go - 1)
          case measure => have := HK.out; have := hgo.out; omega
          case rel => exact ⟨i + 1, by simp, ⟨by have := HK.out; have := hgo.out; omega⟩, ho, hR2, hz, hb2⟩
    · have c0 : decide ((i : Int) < (m.length : Int)) = false := decide_eq_false (by omega)
      have h1 : m.take i = m := List.take_of_length_le (by omega)
      rw [h1] at HO
      obtain ⟨A2, c2, rfl, hle2, hC2⟩ := Kd.R_reads HO.out
      have HO' := Aside0.mk (Kd.R_bound HO.out)
      have g0 : decide ((0 : Int) < (m.length : Int)) = true := decide_eq_true (by omega)
      have g1 : (0 : Int) < (m.length : Int) := by omega
      obtain ⟨ad2, cs2, hA2, _, ⟨Ar, cr, hx2, _, _⟩, hc2⟩ := Kd.C_get hC2 [] 0 (by omega) (by omega)
      subst hA2 hx2
      obtain ⟨row, hrow⟩ : ∃ row, Aside0 (m[0]? = some row) := ⟨_, ⟨List.getElem?_eq_getElem (by omega)⟩⟩
      have hl0 : row.length = r0 := hr0.out row hrow.out
      have qr0 : wo.cell? ad2 = some (.slice Ar r0 cr) := by
        have := hc2 0 _ rfl
        rw [List.getD_eq_getElem?_getD, show (0 : Int).toNat = 0 from rfl] at this
        simp [hrow.out, hl0, Kd.slice] at this
        rwa [show ad2.add 0 = ad2 from by simp [Addr.add]] at this
      have hC2 := Aside0.mk hC2
      have qr0 := Aside0.mk qr0
      clear hc2 HO
      go_wp2_with (first
        | (go_at_call 33; refine (newMatrix _ _ _ _ rfl _).mono ?_; rintro e w1 ⟨rfl, hb1⟩; have hb1 := Aside0.mk hb1)
        | (refine wpList_store_row rfl 58 (.tmp 9) (.tmp 62) rfl (w1.heap.size) _ rfl rfl 58 _ (heap_alloc_new _ _) (by kernel_rfl) rfl (by simp [Value.oneCell']) ?_
           obtain ⟨w3, hw3⟩ : ∃ w3, Aside0 (w3 = (w1.alloc (Obj.cells #[.string ⟨#[]⟩, .float .f64 0, .string ⟨#[]⟩, .slice none 0 0, .slice none 0 0, .bool false, .string ⟨#[]⟩, .int .u8 0, .pointer none, .pointer none] 58)).setRow w1.heap.size #[.string ⟨#[]⟩, fl 0, .string ⟨#[]⟩, .slice none 0 0, .slice (some ad2) m.length c2, .bool false, .string ⟨#[]⟩, .int .u8 4, .pointer none, .pointer none]) := ⟨_, ⟨rfl⟩⟩
           rw [← hw3.out]
           have hG := Aside0.mk (show w3.heap[w1.heap.size]? = some (.cells #[.string ⟨#[]⟩, fl 0, .string ⟨#[]⟩, .slice none 0 0, .slice (some ad2) m.length c2, .bool false, .string ⟨#[]⟩, .int .u8 4, .pointer none, .pointer none] 58 (0, 0)) by rw [hw3.out]; exact setRow_heap _ _ _ _ _ _ (heap_alloc_new _ _))
           have hb3 := Aside0.mk (show Below w1.heap.size w1 w3 by rw [hw3.out]; exact Below.setRow ((Below.refl _ _).alloc (Nat.le_refl _) _) (Nat.le_refl _) _)
           have hs3 : w3.heap.size = w1.heap.size + 1 := by rw [hw3.out, setRow_size]; simp
           have f8 := fun o o' => blk_cell (blk_alloc (blk_alloc hG.out o) o') 8
           have f9 := fun v o o' => blk_cell (blk_alloc (blk_alloc (blk_set hG.out 8 v) o) o') 9
           have z8 := fun o o' => blk_frozen (blk_alloc (blk_alloc hG.out o) o') 8
           have z9 := fun v o o' => blk_frozen (blk_alloc (blk_alloc (blk_set hG.out 8 v) o) o') 9)
        | (go_at_call 35; refine (lNew _).mono ?_; rintro e w' ⟨rfl, rfl⟩))
      obtain ⟨g, hg⟩ : ∃ g, g = w1.heap.size := ⟨_, rfl⟩
      rw [← hg] at hG hs3 ⊢
      have hgs := Aside0.mk hg
      clear f8 f9 z8 z9 hg
      obtain ⟨wX, hwX⟩ : ∃ wX, Aside0 (wX = (((w3.setCell ⟨g, 8, none⟩ (.pointer (some ⟨g + 1, 0, none⟩))).setCell ⟨g, 9, none⟩ (.pointer (some ⟨g + 1 + 1, 0, none⟩))).alloc (Obj.cells #[pt (g + 1), pt (g + 1), .pointer none, .nilIface, .int .i64 0] 88)).alloc (Obj.cells #[pt (g + 1 + 1), pt (g + 1 + 1), .pointer none, .nilIface, .int .i64 0] 88)) := ⟨_, ⟨rfl⟩⟩
      rw [← hwX.out]
      have hGX := Aside0.mk (show wX.heap[g]? = some (.cells #[.string ⟨#[]⟩, fl 0, .string ⟨#[]⟩, .slice none 0 0, .slice (some ad2) m.length c2, .bool false, .string ⟨#[]⟩, .int .u8 4, pt (g + 1), pt (g + 1 + 1)] 58 (0, 0)) by
        rw [hwX.out]
        refine blk_alloc (blk_alloc ?_ _) _
        have := blk_set (blk_set hG.out 8 (.pointer (some ⟨g + 1, 0, none⟩))) 9 (.pointer (some ⟨g + 1 + 1, 0, none⟩))
        simpa [pt] using this)
      have hsX : wX.heap.size = g + 1 + 1 + 1 := by rw [hwX.out]; simp [hs3]
      have hLa := Aside0.mk (show isL wX (g + 1) (g + 1) (g + 1) 0 by rw [hwX.out]; unfold isL; exact blk_alloc (blk_at (by simp [hs3])) _)
      have hLb : isL wX (g + 1 + 1) (g + 1 + 1) (g + 1 + 1) 0 := by rw [hwX.out]; unfold isL; exact blk_at (by simp [hs3])
      have hbX := Aside0.mk (show Below g w1 wX by
        have h9 := hb3.out
        rw [← hgs.out] at h9
        rw [hwX.out]
        exact (((h9.setCell (Nat.le_refl _) _).setCell (Nat.le_refl _) _).alloc (by simp [hs3]) _).alloc (by simp [hs3]; omega) _)
      have q9 : wX.drew.cell? ⟨g, 9, none⟩ = some (.pointer (some ⟨g + 1 + 1, 0, none⟩)) := blk_cell hGX.out 9
      have hb13 : Below wo.heap.size wo wX := below_step hb1.out (by rw [hgs.out] at hbX; exact hbX.out)
      have qr : wX.drew.cell? ad2 = some (.slice Ar r0 cr) := pw_cell_below hb13 qr0.out
      obtain ⟨gb, hgb⟩ : ∃ gb, Aside0 (gb = g + 1 + 1) := ⟨_, ⟨rfl⟩⟩
      rw [← hgb.out] at q9 hLb
      have hLb : isL wX.drew gb gb gb 0 := hLb
      have hX := Aside0.mk hb13
      clear hb13 hb3 hG hs3 hw3 hwX
      refine start_ (n := 13) (S := fun w' => w'.cell? ⟨g, 9, none⟩ = some (.pointer (some ⟨gb, 0, none⟩)) ∧ w'.cell? ad2 = some (.slice Ar r0 cr)) (ds := [12]) #[false, false, false, false, false, false, false, false, false, false, false, false, false] (by kernel_rfl) rfl rfl ⟨q9, qr⟩ (fun hHeld => ?_)
      refine pure_ (i := 0) (N := some 70) (v := ?_) (a' := ?_) #[true, false, false, false, false, false, false, false, false, false, false, false, false] rfl rfl (by kernel_rfl) (fun _ _ _ h => h) (Or.inl ⟨by rfl, ?_⟩) ?_ ?_
      rotate_left
      · intro w'
        go_simp
        with_reducible rfl
      rotate_left
      · simp only [Act.put, List.setIfInBounds_toArray, List.set_cons_zero, List.set_cons_succ, i64_w, i32_w]
        rfl
      refine pure_ (i := 2) (N := some 72) (v := ?_) (a' := ?_) #[true, false, true, false, false, false, false, false, false, false, false, false, false] rfl rfl (by kernel_rfl) (fun _ _ _ h => h) (Or.inl ⟨by rfl, ?_⟩) ?_ ?_
      rotate_left
      · intro w'
        go_simp
        with_reducible rfl
      rotate_left
      · simp only [Act.put, List.setIfInBounds_toArray, List.set_cons_zero, List.set_cons_succ, i64_w, i32_w]
        rfl
      refine pure_ (i := 3) (N := some 73) (v := ?_) (a' := ?_) #[true, false, true, true, false, false, false, false, false, false, false, false, false] rfl rfl (by kernel_rfl) (fun _ _ _ h => h) (Or.inl ⟨by rfl, ?_⟩) ?_ ?_
      rotate_left
      · intro w'
        go_simp
        with_reducible rfl
      rotate_left
      · simp only [Act.put, List.setIfInBounds_toArray, List.set_cons_zero, List.set_cons_succ, i64_w, i32_w]
        rfl
      refine pure_ (i := 4) (N := some 74) (v := ?_) (a' := ?_) #[true, false, true, true, true, false, false, false, false, false, false, false, false] rfl rfl (by kernel_rfl) (fun _ _ _ h => h) (Or.inl ⟨by rfl, ?_⟩) ?_ ?_
      rotate_left
      · intro w'
        go_simp
        with_reducible rfl
      rotate_left
      · simp only [Act.put, List.setIfInBounds_toArray, List.set_cons_zero, List.set_cons_succ, i64_w, i32_w]
        rfl
      refine pure_ (i := 7) (N := some 77) (v := ?_) (a' := ?_) #[true, false, true, true, true, false, false, true, false, false, false, false, false] rfl rfl (by kernel_rfl) (fun _ _ _ h => h) (Or.inl ⟨by rfl, ?_⟩) ?_ ?_
      rotate_left
      · intro w'
        go_simp
        with_reducible rfl
      rotate_left
      · simp only [Act.put, List.setIfInBounds_toArray, List.set_cons_zero, List.set_cons_succ, i64_w, i32_w]
        rfl
      refine pure_ (i := 8) (N := some 78) (v := ?_) (a' := ?_) #[true, false, true, true, true, false, false, true, true, false, false, false, false] rfl rfl (by kernel_rfl) (fun _ _ _ h => h) (Or.inl ⟨by rfl, ?_⟩) ?_ ?_
      rotate_left
      · intro w'
        go_simp
        with_reducible rfl
      rotate_left
      · simp only [Act.put, List.setIfInBounds_toArray, List.set_cons_zero, List.set_cons_succ, i64_w, i32_w]
        rfl
      refine take_ (i := 1) (N := some 71) (v := ?_) (a' := ?_) #[true, true, true, true, true, false, false, true, true, false, false, false, false] rfl rfl (by kernel_rfl) (fun _ _ _ h => h) (Or.inl ⟨by rfl, ?_⟩) hHeld ?_ ?_
      rotate_left
      · rintro w' ⟨s0, s1⟩
        go_simp
        with_reducible rfl
      rotate_left
      · simp only [Act.put, List.setIfInBounds_toArray, List.set_cons_zero, List.set_cons_succ, i64_w, i32_w]
        rfl
      refine take_ (i := 5) (N := some 75) (v := ?_) (a' := ?_) #[true, true, true, true, true, true, false, true, true, false, false, false, false] rfl rfl (by kernel_rfl) (fun _ _ _ h => h) (Or.inl ⟨by rfl, ?_⟩) hHeld ?_ ?_
      rotate_left
      · rintro w' ⟨s0, s1⟩
        go_simp
        with_reducible rfl
      rotate_left
      · simp only [Act.put, List.setIfInBounds_toArray, List.set_cons_zero, List.set_cons_succ, i64_w, i32_w]
        rfl
      refine pure_ (i := 6) (N := some 76) (v := ?_) (a' := ?_) #[true, true, true, true, true, true, true, true, true, false, false, false, false] rfl rfl (by kernel_rfl) (fun _ _ _ h => h) (Or.inl ⟨by rfl, ?_⟩) ?_ ?_
      rotate_left
      · intro w'
        go_simp
        with_reducible rfl
      rotate_left
      · simp only [Act.put, List.setIfInBounds_toArray, List.set_cons_zero, List.set_cons_succ, i64_w, i32_w]
        rfl
      refine pure_ (i := 9) (N := some 79) (v := ?_) (a' := ?_) #[true, true, true, true, true, true, true, true, true, true, false, false, false] rfl rfl (by kernel_rfl) (fun _ _ _ h => h) (Or.inl ⟨by rfl, ?_⟩) ?_ ?_
      rotate_left
      · intro w'
        go_simp
        with_reducible rfl
      rotate_left
      · simp only [Act.put, List.setIfInBounds_toArray, List.set_cons_zero, List.set_cons_succ, i64_w, i32_w]
        rfl
      refine pure_ (i := 10) (N := some 80) (v := ?_) (a' := ?_) #[true, true, true, true, true, true, true, true, true, true, true, false, false] rfl rfl (by kernel_rfl) (fun _ _ _ h => h) (Or.inl ⟨by rfl, ?_⟩) ?_ ?_
      rotate_left
      · intro w'
        go_simp
        with_reducible rfl
      rotate_left
      · simp only [Act.put, List.setIfInBounds_toArray, List.set_cons_zero, List.set_cons_succ, i64_w, i32_w]
        rfl
      refine pure_ (i := 11) (N := some 81) (v := ?_) (a' := ?_) #[true, true, true, true, true, true, true, true, true, true, true, true, false] rfl rfl (by kernel_rfl) (fun _ _ _ h => h) (Or.inl ⟨by rfl, ?_⟩) ?_ ?_
      rotate_left
      · intro w'
        go_simp
        with_reducible rfl
      rotate_left
      · simp only [Act.put, List.setIfInBounds_toArray, List.set_cons_zero, List.set_cons_succ, i64_w, i32_w]
        rfl
      refine last_ (i := 12) (N := some 82) #[true, true, true, true, true, true, true, true, true, true, true, true, true] rfl rfl (by kernel_rfl) (by decide) (fun K hK => ?_)
      refine goes_ Try.func36 (by kernel_rfl) rfl #[.pointer (some ⟨gb, 0, none⟩), .iface 96 (boxOf r0 m.length)] (by rfl) rfl rfl (by simp only [List.map_toArray, List.map_cons, List.map_nil]; rfl) ?_
      with_reducible refine (lPush0 gb _ _ hLb).mono ?_
      rintro e w9 ⟨⟨eb, rfl, h0, h1, h2⟩, h3⟩
      refine ⟨_, rfl, ?_⟩
      refine hK.out _ _ ?_
      clear hK K
      refine norm_ (a' := ?_) ?_ ?_
      rotate_left
      · show Act.put _ (some 82) _ = _
        simp only [Act.put, List.setIfInBounds_toArray, List.set_cons_zero, List.set_cons_succ, i64_w, i32_w]
        rfl
      refine done_ (by kernel_rfl) ?_
      have hG9 := Aside0.mk ((h3.block g (by show g < wX.heap.size; omega) (by have := hgb.out; omega)).trans hGX.out)
      have hL9 := Aside0.mk ((h3.block (g + 1) (by show g + 1 < wX.heap.size; omega) (by have := hgb.out; omega)).trans hLa.out)
      have hb9 := Aside0.mk (Chg.below (B := g) (Below.refl _ _).drew h3 (by show g ≤ wX.heap.size; omega) (fun i hi => by have := hgb.out; omega))
      have hsz9 := Aside0.mk h3.size
      have hst := Aside0.mk h3.block
      have h1 := Aside0.mk h1
      have h2 := Aside0.mk h2
      have hR9 := Aside0.mk ((h3.block (w.heap.size + 1) (by show _ < wX.heap.size; have := hb1.out.size; have := hgs.out; have := HS.out; omega) (by have := hb1.out.size; have := hgs.out; have := HS.out; have := hgb.out; omega)).trans (blk_below HR.out hX.out.drew))
      have h0 := Aside0.mk h0
      clear h3 q9 qr
      go_wp2_with (first
        | (refine wpList_load_row rfl 58 (.tmp 9) rfl g rfl 58 _ (0, 0) _ hG9.out Try.underlying58 rfl (by kernel_rfl) ?_)
        | (refine wpList_store_row rfl 58 (.tmp 2) (.tmp 83) rfl (w.heap.size + 1) _ rfl rfl 58 _ hR9.out (by kernel_rfl) rfl (by simp [Value.oneCell', pt]) ?_))
      refine bodyPost_ret (results_cell_row rfl _ _ (w.heap.size + 1) 58 #[.string ⟨#[]⟩, fl 0, .string ⟨#[]⟩, .slice none 0 0, .slice (some ad2) m.length c2, .bool false, .string ⟨#[]⟩, .int .u8 4, pt (g + 1), pt (g + 1 + 1)] (0, 0) _ rfl (setRow_heap _ _ _ _ _ _ hR9.out) Try.underlying58 rfl (by kernel_rfl)) rfl ?_
      have hx1 := hb1.out.size
      have hx2 := hgs.out
      have hx3 := HS.out
      have hx4 := hgb.out
      have hx6 : wX.heap.size ≤ eb := h0.out
      have hx5 : wX.heap.size ≤ w9.heap.size := hsz9.out
      have hst' : ∀ k, k < wX.heap.size → k ≠ gb → w9.heap[k]? = wX.heap[k]? := fun k hk hn => hst.out k hk hn
      have hbl1 := blk_lt h1.out
      have hbl2 := blk_lt h2.out
      have hebl := blk_ne h2.out h1.out (by decide)
      refine ⟨⟨some ad2, c2, g + 1, g + 1 + 1, eb, rfl, fun w'' hw => ?_⟩, ?_⟩
      · have hf : ∀ k, w.heap.size + 1 < k → k < w9.heap.size → w''.heap[k]? = w9.heap[k]? := fun k hk hk2 => by
          rw [hw k (by omega) (by rw [setRow_size]; exact hk2), setRow_other _ _ _ _ (by omega)]
        have hRf := Kd.R_reads (Kd.R_move (w1 := w'') HO'.out (fun k hk => by
          obtain ⟨_, k1, k2, _⟩ := hk
          rw [hf k (by omega) (by omega), hst' k (by omega) (by omega)]
          exact hX.out.block k k2))
        obtain ⟨A', c', he, _, hCf⟩ := hRf
        injection he with he1 he2 he3
        refine ⟨?_, hle2, ?_, ?_, ?_⟩
        · rw [he1]; exact hCf
        · unfold isL; rw [hf _ (by omega) (by omega)]; exact hL9.out
        · unfold isL; rw [← hgb.out, hf _ (by omega) (by omega)]; exact h1.out
        · unfold isE; rw [hf _ (by omega) (by omega)]
          rw [← hgb.out]; exact h2.out
      · exact Below.setRow ((below_step HB.out hX.out).trans (Below.mono hb9.out (by omega))) (by omega) _
end Go.Proofs.Ytedbbekfpficpaa
