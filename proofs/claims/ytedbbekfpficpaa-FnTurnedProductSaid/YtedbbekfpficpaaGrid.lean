import Derived.Test.YtedbbekfpficpaaCall
set_option linter.unusedSimpArgs false
set_option linter.unusedVariables false
namespace Go.Proofs.Ytedbbekfpficpaa
open Go.RowKit Go.Proofs.YtedbbekfpficpaaW.PrintWords Go.Proofs.YtedbbekfpficpaaW.PrintLast Fl
/-- The number at a place of a list, from -99 to 99; nought behind its end. -/
def cellG (l : List Int) (p : Nat) : Int := if p < l.length then (l.getD p 0).tmod 100 else 0
def gridM (l : List Int) (r c : Nat) : List (List Int) := (List.range r).map fun i => (List.range c).map fun k => cellG l (i * c + k)
theorem cellG_bound (l : List Int) (p : Nat) : (cellG l p).natAbs ≤ 99 := by
  unfold cellG
  split
  · have := Int.natAbs_tmod (l.getD p 0) 100
    rw [this]
    have : (l.getD p 0).natAbs % 100 < 100 := Nat.mod_lt _ (by decide)
    simpa using Nat.le_of_lt_succ this
  · simp
theorem info25 : (Try.prog.info? 25).map (fun i => (i.zero, i.size, i.bytes)) = some (some (.agg #[.int .i64 0, .int .i64 0, .int .i64 0, .string ⟨#[]⟩, .slice none 0 0]), 5, 64) := by kernel_rfl
theorem info40 : (Try.prog.info? 40).map (fun i => (i.zero, i.size, i.bytes)) = some (some (.slice none 0 0), 1, 24) := by kernel_rfl
theorem made_nS (n : Int) (w : World) (B : Nat) (ok : Nat → Prop) : nS.M w B ok (nu n) [.int .i64 1, .int .i64 n, .int .i64 1, .string ⟨#[]⟩, .slice none 0 0] :=
  ⟨[.int .i64 1, .int .i64 n, .int .i64 1, .string ⟨#[]⟩], [.slice none 0 0], rfl, rfl, _, rfl, Kd.R_nil _ _ _ _ _⟩
attribute [local go_sem] run_store_float
set_option maxHeartbeats 1000000 in
set_option maxRecDepth 100000 in
theorem square_ (l : List Int) (hl : l.length ≤ 2147483647)  (A : Option Addr) (c0 : Nat) (w : World) (hC : (Kd.int .i64).C w A l.length l) :
    Calls Try.prog 5 #[.slice A l.length c0] w (Made tS (ta (gridM l 3 3)) w) := by
  have HC := Aside0.mk hC
  clear hC
  have hll : (l.length : Int) ≤ 2147483647 := by omega
  go_enter Try.func5, Try.ntmps5
  go_wp2
  go_loopg [3, 4] 3 (fun kq v3 v4 w' => ∃ (i : Nat), v4 = .int .i64 i ∧ Aside0 (i + kq = 3) ∧
    Aside0 ((Kd.slice 25 nS).R 40 w' (w.heap.size + 1) (fun _ => True) v3 ((List.range i).map (fun i => (List.range 3).map (fun j => nu (cellG l (i * 3 + j)))))) ∧ Aside0 (w'.heap[w.heap.size]? = some (.cells #[.int .i64 0, .int .i64 0, .int .i64 0, .string ⟨#[]⟩, .slice none 0 0] 25 (0, 0))) ∧ Aside0 (w.heap.size + 1 ≤ w'.heap.size) ∧ Aside0 (Below w.heap.size w w'))
  case atStart =>
    refine ⟨0, rfl, ⟨by omega⟩, ⟨by simpa using Kd.R_nil _ _ _ _ _⟩, ⟨?_⟩, ⟨by simp⟩, ⟨?_⟩⟩
    · repeat (first | (refine blk_at ?_; simp; done) | refine blk_alloc ?_ _)
    · repeat (first | exact Below.refl _ _ | refine Below.alloc ?_ (by simp <;> omega) _)
  case round =>
    obtain ⟨i, rfl, HK, HO, HR, HS, HB⟩ := hrel
    obtain ⟨wo, rfl⟩ : ∃ wo : World, wo = wr := ⟨_, rfl⟩
    obtain ⟨go, hgo⟩ : ∃ go : Nat, Aside0 (go = gk) := ⟨_, ⟨rfl⟩⟩
    obtain ⟨o3, ho3⟩ : ∃ o3 : Value, Aside0 (o3 = u3) := ⟨_, ⟨rfl⟩⟩
    by_cases hi : i < 3
    · have c0' : decide ((i : Int) < 3) = true := decide_eq_true (by omega)
      have i1 : (0 : Int) ≤ (i : Int) := by omega
      have i2 : (i : Int) ≤ 100 := by omega
      skip
      go_wp2
      go_loopg [5, 6] 3 (fun kq v5 v6 w' => ∃ (j : Nat), v6 = .int .i64 j ∧ Aside0 (j + kq = 3) ∧ Aside0 (nS.R 25 w' wo.heap.size (fun _ => True) v5 ((List.range j).map (fun j => nu (cellG l (i * 3 + j))))) ∧ Aside0 (Below wo.heap.size wo w'))
      case atStart => exact ⟨0, rfl, ⟨by omega⟩, ⟨by simpa using Kd.R_nil _ _ _ _ _⟩, ⟨Below.refl _ _⟩⟩
      case round =>
        obtain ⟨j, rfl, HKi, HOi, HBi⟩ := hrel
        by_cases hj : j < 3
        · have e0 : decide ((j : Int) < 3) = true := decide_eq_true (by omega)
          have j1 : (0 : Int) ≤ (j : Int) := by omega
          have j2 : (j : Int) ≤ 100 := by omega
          by_cases hp : 3 * i + j < l.length
          · have p0 : decide ((3 * (i : Int) + (j : Int)) < (l.length : Int)) = true := decide_eq_true (by omega)
            have p1 : (0 : Int) ≤ (3 * (i : Int) + (j : Int)) := by omega
            have p2 : (3 * (i : Int) + (j : Int)) < (l.length : Int) := by omega
            obtain ⟨ad, cs, rfl, hcl, hK, hcell⟩ := Kd.C_get (Kd.C_below HC.out (below_step HB.out HBi.out)) 0 (3 * (i : Int) + (j : Int)) p1 p2
            have hn : (3 * (i : Int) + (j : Int)).toNat = 3 * i + j := by omega
            rw [hn] at hK hcell
            obtain rfl : cs = [.int .i64 (l.getD (3 * i + j) 0)] := hK
            have hv : (l.getD (3 * i + j) 0).tmod 100 = cellG l (i * 3 + j) := by rw [show i * 3 + j = 3 * i + j from by omega]; simp only [cellG]; rw [if_pos hp]
            have kx : wr.cell? (ad.add (3 * i + j)) = some (.int .i64 (l.getD (3 * i + j) 0)) := by simpa [Kd.int, Kd.scalar] using hcell 0 _ rfl
            obtain ⟨y, hy⟩ : ∃ y, Aside0 (y = l.getD (3 * i + j) 0) := ⟨_, ⟨rfl⟩⟩
            obtain ⟨z, hz⟩ : ∃ z, Aside0 (z = cellG l (i * 3 + j)) := ⟨_, ⟨rfl⟩⟩
            rw [← hy.out] at kx hv
            rw [← hz.out] at hv
            have hbz : z.natAbs ≤ 99 := by rw [hz.out]; exact cellG_bound l _
            have hbz1 : z ≤ 99 := by omega
            have hbz2 : -99 ≤ z := by omega
            have hcell := Aside0.mk hcell
            clear hcl hn
            go_wp2_with (first
              | (go_at_call 13; refine (specInt z (by omega) _).mono ?_; rintro e w1 ⟨rfl, hb1⟩; have hb1 := Aside0.mk hb1)
              | ((with_reducible refine gate_builtin (b := .append) (xs := #[.tmp 31, .tmp 34]) rfl ?_); at_builtin
                 go_loud (refine appendMade nS (w0 := wo) (wr := wr) (B := wo.heap.size) rfl (.tmp 31) (.tmp 34) 40 25 _ 64 rfl Try.underlying40 info25 rfl (by decide) (by decide) u5 ((List.range j).map (fun j => nu (cellG l (i * 3 + j)))) (nu z) [.int .i64 1, .int .i64 z, .int .i64 1, .string ⟨#[]⟩, .slice none 0 0] (fun _ => True) rfl rfl (made_nS _ _ _ _) HOi.out HBi.out HBi.out.size hb1.out (fun _ _ => trivial) ?aL ?_)
                 (case aL => rw [List.length_map, List.length_range]; omega)
                 intro v1 w2 ho hb hg hat; have ho := Aside0.mk ho; have hb := Aside0.mk hb; clear hg hat))
            go_roundg (gk - 1)
            case measure => have := HKi.out; omega
            case rel => exact ⟨j + 1, by simp, ⟨by have := HKi.out; omega⟩, ⟨by have := ho.out; rw [List.range_succ (n := j), List.map_append, List.map_singleton, ← hz.out]; exact this⟩, hb⟩
          · have p0 : decide ((3 * (i : Int) + (j : Int)) < (l.length : Int)) = false := decide_eq_false (by omega)
            have hv : 0 = cellG l (i * 3 + j) := by rw [show i * 3 + j = 3 * i + j from by omega]; simp only [cellG]; rw [if_neg hp]
            obtain ⟨z, hz⟩ : ∃ z, Aside0 (z = cellG l (i * 3 + j)) := ⟨_, ⟨rfl⟩⟩
            have hz0 : Aside0 (z = 0) := ⟨by rw [hz.out]; exact hv.symm⟩
            clear hv
            go_wp2_with (first
              | (go_at_call 13; refine (specInt 0 (by omega) _).mono ?_; rintro e w1 ⟨rfl, hb1⟩; have hb1 := Aside0.mk hb1)
              | ((with_reducible refine gate_builtin (b := .append) (xs := #[.tmp 31, .tmp 34]) rfl ?_); at_builtin
                 go_loud (refine appendMade nS (w0 := wo) (wr := wr) (B := wo.heap.size) rfl (.tmp 31) (.tmp 34) 40 25 _ 64 rfl Try.underlying40 info25 rfl (by decide) (by decide) u5 ((List.range j).map (fun j => nu (cellG l (i * 3 + j)))) (nu 0) [.int .i64 1, .int .i64 0, .int .i64 1, .string ⟨#[]⟩, .slice none 0 0] (fun _ => True) rfl rfl (made_nS _ _ _ _) HOi.out HBi.out HBi.out.size hb1.out (fun _ _ => trivial) ?aL ?_)
                 (case aL => rw [List.length_map, List.length_range]; omega)
                 intro v1 w2 ho hb hg hat; have ho := Aside0.mk ho; have hb := Aside0.mk hb; clear hg hat))
            go_roundg (gk - 1)
            case measure => have := HKi.out; omega
            case rel => exact ⟨j + 1, by simp, ⟨by have := HKi.out; omega⟩, ⟨by have := ho.out; rw [List.range_succ (n := j), List.map_append, List.map_singleton, ← hz.out, hz0.out]; exact this⟩, hb⟩
        · have e0 : decide ((j : Int) < 3) = false := decide_eq_false (by omega)
          obtain rfl : 3 = j := by have := HKi.out; omega
          obtain ⟨A3, n3, c3, rfl⟩ := R_shape HOi.out
          have hM := Aside0.mk (show (Kd.slice 25 nS).M wr wo.heap.size (fun _ => True) ((List.range 3).map (fun j => nu (cellG l (i * 3 + j)))) [.slice A3 n3 c3] from ⟨_, rfl, HOi.out⟩)
          go_wp2_with (first
            | ((with_reducible refine gate_builtin (b := .append) (xs := #[.tmp 36, .tmp 38]) rfl ?_); at_builtin
               go_loud (refine appendMade (Kd.slice 25 nS) (w0 := wo) (wr := wo) (B := w.heap.size + 1) rfl (.tmp 36) (.tmp 38) 23 40 _ 24 rfl Try.underlying23 info40 rfl Nat.zero_lt_one (by decide) u3 ((List.range i).map (fun i => (List.range 3).map (fun j => nu (cellG l (i * 3 + j))))) ((List.range 3).map (fun j => nu (cellG l (i * 3 + j)))) [.slice A3 n3 c3] (fun _ => True) rfl rfl hM.out HO.out (Below.refl _ _) HS.out HBi.out (fun _ _ => trivial) ?aL ?_)
               (case aL => rw [List.length_map, List.length_range]; omega)
               intro v1 w2 ho hb hg hat
               have ho := Aside0.mk ho; have hb2 := Aside0.mk (HB.out.trans (hb.mono (by omega)))
               have hR2 := Aside0.mk (blk_of_below HR.out hb (by omega)); have hz := Aside0.mk (Nat.le_trans HS.out hb.size); clear hb hg hat))
          go_roundg (go - 1)
          case measure => have := HK.out; have := hgo.out; omega
          case rel => exact ⟨i + 1, by simp, ⟨by have := HK.out; have := hgo.out; omega⟩, ⟨by have := ho.out; rw [List.range_succ (n := i), List.map_append]; exact this⟩, hR2, hz, hb2⟩
    · have c0' : decide ((i : Int) < 3) = false := decide_eq_false (by omega)
      obtain rfl : 3 = i := by have := HK.out; omega
      obtain ⟨A2, n2, c2, rfl⟩ := R_shape HO.out
      go_wp2_with (first
        | (go_at_call 14; refine (specTable _ _ _ _ rfl _).mono ?_; rintro e w1 ⟨rfl, hb1⟩; have hR1 := Aside0.mk (blk_below HR.out hb1); have hb1 := Aside0.mk hb1)
        | (refine wpList_store_row rfl 25 (.tmp 2) (.tmp 41) rfl w.heap.size _ rfl rfl 25 _ hR1.out (by kernel_rfl) rfl (by simp [Value.oneCell']) ?_))
      refine bodyPost_ret (results_cell_row rfl _ _ w.heap.size 25 #[.int .i64 5, .int .i64 0, .int .i64 0, .string ⟨#[]⟩, .slice A2 n2 c2] (0, 0) _ rfl (setRow_heap _ _ _ _ _ _ hR1.out) Try.underlying25 rfl (by kernel_rfl)) rfl ?_
      refine ⟨[.int .i64 5, .int .i64 0, .int .i64 0, .string ⟨#[]⟩, .slice A2 n2 c2], rfl, ?_, Below.setRow (below_step HB.out hb1.out) (Nat.le_refl _) _⟩
      refine ⟨[.int .i64 5, .int .i64 0, .int .i64 0, .string ⟨#[]⟩], [.slice A2 n2 c2], rfl, rfl, _, rfl, ?_⟩
      have he : (ta (gridM l 3 3)).2 = (List.range 3).map (fun i => (List.range 3).map (fun j => nu (cellG l (i * 3 + j)))) := by simp [ta, gridM, Function.comp_def]
      rw [he]
      exact Kd.R_lower (Kd.R_mono (Kd.R_step (Kd.R_bound (Kd.R_below HO.out hb1.out)) (fun k hk _ => setRow_other _ _ _ _ (by have := hk.2.1; omega))) (fun _ _ => trivial)) (by omega)
set_option maxHeartbeats 1000000 in
set_option maxRecDepth 100000 in
theorem matrix_ (l : List Int) (hl : l.length ≤ 2147483647) (r c : Nat) (hr : 1 ≤ r ∧ r ≤ 6) (hc : 1 ≤ c ∧ c ≤ 6) (A : Option Addr) (c0 : Nat) (w : World) (hC : (Kd.int .i64).C w A l.length l) :
    Calls Try.prog 10 #[.slice A l.length c0, .int .i64 r, .int .i64 c] w (Made tS (ta (gridM l r c)) w) := by
  have HC := Aside0.mk hC
  clear hC
  have hll : (l.length : Int) ≤ 2147483647 := by omega
  go_enter Try.func10, Try.ntmps10
  go_wp2
  go_loopg [7, 8] r (fun kq v3 v4 w' => ∃ (i : Nat), v4 = .int .i64 i ∧ Aside0 (i + kq = r) ∧
    Aside0 ((Kd.slice 25 nS).R 40 w' (w.heap.size + 1) (fun _ => True) v3 ((List.range i).map (fun i => (List.range c).map (fun j => nu (cellG l (i * c + j)))))) ∧ Aside0 (w'.heap[w.heap.size]? = some (.cells #[.int .i64 0, .int .i64 0, .int .i64 0, .string ⟨#[]⟩, .slice none 0 0] 25 (0, 0))) ∧ Aside0 (w.heap.size + 1 ≤ w'.heap.size) ∧ Aside0 (Below w.heap.size w w'))
  case atStart =>
    refine ⟨0, rfl, ⟨by omega⟩, ⟨by simpa using Kd.R_nil _ _ _ _ _⟩, ⟨?_⟩, ⟨by simp⟩, ⟨?_⟩⟩
    · repeat (first | (refine blk_at ?_; simp; done) | refine blk_alloc ?_ _)
    · repeat (first | exact Below.refl _ _ | refine Below.alloc ?_ (by simp <;> omega) _)
  case round =>
    obtain ⟨i, rfl, HK, HO, HR, HS, HB⟩ := hrel
    obtain ⟨wo, rfl⟩ : ∃ wo : World, wo = wr := ⟨_, rfl⟩
    obtain ⟨go, hgo⟩ : ∃ go : Nat, Aside0 (go = gk) := ⟨_, ⟨rfl⟩⟩
    obtain ⟨o3, ho3⟩ : ∃ o3 : Value, Aside0 (o3 = u7) := ⟨_, ⟨rfl⟩⟩
    by_cases hi : i < r
    · have c0' : decide ((i : Int) < (r : Int)) = true := decide_eq_true (by omega)
      have i1 : (0 : Int) ≤ (i : Int) := by omega
      have i2 : (i : Int) ≤ 100 := by omega
      obtain ⟨q, hq, hq2⟩ : ∃ q : Nat, (i : Int) * (c : Int) = (q : Int) ∧ Aside0 (q = i * c) := ⟨i * c, by simp, ⟨rfl⟩⟩
      have hqb : q ≤ 36 := by rw [hq2.out]; exact Nat.mul_le_mul (show i ≤ 6 by omega) (show c ≤ 6 by omega)
      have hqb2 : (q : Int) ≤ 36 := by omega
      go_wp2
      go_loopg [9, 10] c (fun kq v5 v6 w' => ∃ (j : Nat), v6 = .int .i64 j ∧ Aside0 (j + kq = c) ∧ Aside0 (nS.R 25 w' wo.heap.size (fun _ => True) v5 ((List.range j).map (fun j => nu (cellG l (i * c + j))))) ∧ Aside0 (Below wo.heap.size wo w'))
      case atStart => exact ⟨0, rfl, ⟨by omega⟩, ⟨by simpa using Kd.R_nil _ _ _ _ _⟩, ⟨Below.refl _ _⟩⟩
      case round =>
        obtain ⟨j, rfl, HKi, HOi, HBi⟩ := hrel
        by_cases hj : j < c
        · have e0 : decide ((j : Int) < (c : Int)) = true := decide_eq_true (by omega)
          have j1 : (0 : Int) ≤ (j : Int) := by omega
          have j2 : (j : Int) ≤ 100 := by omega
          by_cases hp : q + j < l.length
          · have p0 : decide (((q : Int) + (j : Int)) < (l.length : Int)) = true := decide_eq_true (by omega)
            have p1 : (0 : Int) ≤ ((q : Int) + (j : Int)) := by omega
            have p2 : ((q : Int) + (j : Int)) < (l.length : Int) := by omega
            obtain ⟨ad, cs, rfl, hcl, hK, hcell⟩ := Kd.C_get (Kd.C_below HC.out (below_step HB.out HBi.out)) 0 ((q : Int) + (j : Int)) p1 p2
            have hn : ((q : Int) + (j : Int)).toNat = q + j := by omega
            rw [hn] at hK hcell
            obtain rfl : cs = [.int .i64 (l.getD (q + j) 0)] := hK
            have hv : (l.getD (q + j) 0).tmod 100 = cellG l (i * c + j) := by rw [← hq2.out]; simp only [cellG]; rw [if_pos hp]
            have kx : wr.cell? (ad.add (q + j)) = some (.int .i64 (l.getD (q + j) 0)) := by simpa [Kd.int, Kd.scalar] using hcell 0 _ rfl
            obtain ⟨y, hy⟩ : ∃ y, Aside0 (y = l.getD (q + j) 0) := ⟨_, ⟨rfl⟩⟩
            obtain ⟨z, hz⟩ : ∃ z, Aside0 (z = cellG l (i * c + j)) := ⟨_, ⟨rfl⟩⟩
            rw [← hy.out] at kx hv
            rw [← hz.out] at hv
            have hbz : z.natAbs ≤ 99 := by rw [hz.out]; exact cellG_bound l _
            have hbz1 : z ≤ 99 := by omega
            have hbz2 : -99 ≤ z := by omega
            have hcell := Aside0.mk hcell
            clear hcl hn
            go_wp2_with (first
              | (go_at_call 13; refine (specInt z (by omega) _).mono ?_; rintro e w1 ⟨rfl, hb1⟩; have hb1 := Aside0.mk hb1)
              | ((with_reducible refine gate_builtin (b := .append) (xs := #[.tmp 39, .tmp 42]) rfl ?_); at_builtin
                 go_loud (refine appendMade nS (w0 := wo) (wr := wr) (B := wo.heap.size) rfl (.tmp 39) (.tmp 42) 40 25 _ 64 rfl Try.underlying40 info25 rfl (by decide) (by decide) u9 ((List.range j).map (fun j => nu (cellG l (i * c + j)))) (nu z) [.int .i64 1, .int .i64 z, .int .i64 1, .string ⟨#[]⟩, .slice none 0 0] (fun _ => True) rfl rfl (made_nS _ _ _ _) HOi.out HBi.out HBi.out.size hb1.out (fun _ _ => trivial) ?aL ?_)
                 (case aL => rw [List.length_map, List.length_range]; omega)
                 intro v1 w2 ho hb hg hat; have ho := Aside0.mk ho; have hb := Aside0.mk hb; clear hg hat))
            go_roundg (gk - 1)
            case measure => have := HKi.out; omega
            case rel => exact ⟨j + 1, by simp, ⟨by have := HKi.out; omega⟩, ⟨by have := ho.out; rw [List.range_succ (n := j), List.map_append, List.map_singleton, ← hz.out]; exact this⟩, hb⟩
          · have p0 : decide (((q : Int) + (j : Int)) < (l.length : Int)) = false := decide_eq_false (by omega)
            have hv : 0 = cellG l (i * c + j) := by rw [← hq2.out]; simp only [cellG]; rw [if_neg hp]
            obtain ⟨z, hz⟩ : ∃ z, Aside0 (z = cellG l (i * c + j)) := ⟨_, ⟨rfl⟩⟩
            have hz0 : Aside0 (z = 0) := ⟨by rw [hz.out]; exact hv.symm⟩
            clear hv
            go_wp2_with (first
              | (go_at_call 13; refine (specInt 0 (by omega) _).mono ?_; rintro e w1 ⟨rfl, hb1⟩; have hb1 := Aside0.mk hb1)
              | ((with_reducible refine gate_builtin (b := .append) (xs := #[.tmp 39, .tmp 42]) rfl ?_); at_builtin
                 go_loud (refine appendMade nS (w0 := wo) (wr := wr) (B := wo.heap.size) rfl (.tmp 39) (.tmp 42) 40 25 _ 64 rfl Try.underlying40 info25 rfl (by decide) (by decide) u9 ((List.range j).map (fun j => nu (cellG l (i * c + j)))) (nu 0) [.int .i64 1, .int .i64 0, .int .i64 1, .string ⟨#[]⟩, .slice none 0 0] (fun _ => True) rfl rfl (made_nS _ _ _ _) HOi.out HBi.out HBi.out.size hb1.out (fun _ _ => trivial) ?aL ?_)
                 (case aL => rw [List.length_map, List.length_range]; omega)
                 intro v1 w2 ho hb hg hat; have ho := Aside0.mk ho; have hb := Aside0.mk hb; clear hg hat))
            go_roundg (gk - 1)
            case measure => have := HKi.out; omega
            case rel => exact ⟨j + 1, by simp, ⟨by have := HKi.out; omega⟩, ⟨by have := ho.out; rw [List.range_succ (n := j), List.map_append, List.map_singleton, ← hz.out, hz0.out]; exact this⟩, hb⟩
        · have e0 : decide ((j : Int) < (c : Int)) = false := decide_eq_false (by omega)
          obtain rfl : c = j := by have := HKi.out; omega
          obtain ⟨A3, n3, c3, rfl⟩ := R_shape HOi.out
          have hM := Aside0.mk (show (Kd.slice 25 nS).M wr wo.heap.size (fun _ => True) ((List.range c).map (fun j => nu (cellG l (i * c + j)))) [.slice A3 n3 c3] from ⟨_, rfl, HOi.out⟩)
          go_wp2_with (first
            | ((with_reducible refine gate_builtin (b := .append) (xs := #[.tmp 44, .tmp 46]) rfl ?_); at_builtin
               go_loud (refine appendMade (Kd.slice 25 nS) (w0 := wo) (wr := wo) (B := w.heap.size + 1) rfl (.tmp 44) (.tmp 46) 23 40 _ 24 rfl Try.underlying23 info40 rfl Nat.zero_lt_one (by decide) u7 ((List.range i).map (fun i => (List.range c).map (fun j => nu (cellG l (i * c + j))))) ((List.range c).map (fun j => nu (cellG l (i * c + j)))) [.slice A3 n3 c3] (fun _ => True) rfl rfl hM.out HO.out (Below.refl _ _) HS.out HBi.out (fun _ _ => trivial) ?aL ?_)
               (case aL => rw [List.length_map, List.length_range]; omega)
               intro v1 w2 ho hb hg hat
               have ho := Aside0.mk ho; have hb2 := Aside0.mk (HB.out.trans (hb.mono (by omega)))
               have hR2 := Aside0.mk (blk_of_below HR.out hb (by omega)); have hz := Aside0.mk (Nat.le_trans HS.out hb.size); clear hb hg hat))
          go_roundg (go - 1)
          case measure => have := HK.out; have := hgo.out; omega
          case rel => exact ⟨i + 1, by simp, ⟨by have := HK.out; have := hgo.out; omega⟩, ⟨by have := ho.out; rw [List.range_succ (n := i), List.map_append]; exact this⟩, hR2, hz, hb2⟩
    · have c0' : decide ((i : Int) < (r : Int)) = false := decide_eq_false (by omega)
      obtain rfl : r = i := by have := HK.out; omega
      obtain ⟨A2, n2, c2, rfl⟩ := R_shape HO.out
      go_wp2_with (first
        | (go_at_call 14; refine (specTable _ _ _ _ rfl _).mono ?_; rintro e w1 ⟨rfl, hb1⟩; have hR1 := Aside0.mk (blk_below HR.out hb1); have hb1 := Aside0.mk hb1)
        | (refine wpList_store_row rfl 25 (.tmp 6) (.tmp 49) rfl w.heap.size _ rfl rfl 25 _ hR1.out (by kernel_rfl) rfl (by simp [Value.oneCell']) ?_))
      refine bodyPost_ret (results_cell_row rfl _ _ w.heap.size 25 #[.int .i64 5, .int .i64 0, .int .i64 0, .string ⟨#[]⟩, .slice A2 n2 c2] (0, 0) _ rfl (setRow_heap _ _ _ _ _ _ hR1.out) Try.underlying25 rfl (by kernel_rfl)) rfl ?_
      refine ⟨[.int .i64 5, .int .i64 0, .int .i64 0, .string ⟨#[]⟩, .slice A2 n2 c2], rfl, ?_, Below.setRow (below_step HB.out hb1.out) (Nat.le_refl _) _⟩
      refine ⟨[.int .i64 5, .int .i64 0, .int .i64 0, .string ⟨#[]⟩], [.slice A2 n2 c2], rfl, rfl, _, rfl, ?_⟩
      have he : (ta (gridM l r c)).2 = (List.range r).map (fun i => (List.range c).map (fun j => nu (cellG l (i * c + j)))) := by simp [ta, gridM, Function.comp_def]
      rw [he]
      exact Kd.R_lower (Kd.R_mono (Kd.R_step (Kd.R_bound (Kd.R_below HO.out hb1.out)) (fun k hk _ => setRow_other _ _ _ _ (by have := hk.2.1; omega))) (fun _ _ => trivial)) (by omega)
end Go.Proofs.Ytedbbekfpficpaa
