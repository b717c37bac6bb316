import Derived.Test.YtedbbekfpficpaaKinds
namespace Go.Proofs.Ytedbbekfpficpaa
open Go.RowKit Go.Proofs.YtedbbekfpficpaaW.PrintWords Fl
attribute [local go_sem] run_store_float
set_option maxHeartbeats 400000 in
theorem specInt (n : Int) (h : n.natAbs ≤ 99999999999) (w : World) :
    Calls Try.prog 13 #[.int .i64 n] w fun e w' => e = .returned (.agg #[.int .i64 1, .int .i64 n, .int .i64 1, .string ⟨#[]⟩, .slice none 0 0]) ∧ Below w.heap.size w w' := by
  have h1 : ¬ n > 99999999999 := by omega
  have h2 : ¬ n < -99999999999 := by omega
  go_enter Try.func13, Try.ntmps13
  go_wp2
  refine bodyPost_ret (results_cell_row rfl _ _ _ _ _ _ _ rfl (heap_alloc_new _ _) Try.underlying25 rfl (by kernel_rfl)) rfl ?_
  exact ⟨rfl, (Below.refl _ _).alloc (Nat.le_refl _) _⟩
set_option maxHeartbeats 400000 in
theorem specTable (v : Value) (A : Option Addr) (n c : Nat) (hv : v = .slice A n c) (w : World) :
    Calls Try.prog 14 #[v] w fun e w' => e = .returned (.agg #[.int .i64 5, .int .i64 0, .int .i64 0, .string ⟨#[]⟩, v]) ∧ Below w.heap.size w w' := by
  subst hv
  go_enter Try.func14, Try.ntmps14
  go_wp2
  refine bodyPost_ret (results_cell_row rfl _ _ _ _ _ _ _ rfl (heap_alloc_new _ _) Try.underlying25 rfl (by kernel_rfl)) rfl ?_
  exact ⟨rfl, (Below.refl _ _).alloc (Nat.le_refl _) _⟩
set_option maxHeartbeats 400000 in
theorem isNaN (n : Int) (h : n.natAbs < 2 ^ 53) (w : World) :
    Calls Try.prog 40 #[fl n] w fun e w' => e = .returned (.bool false) ∧ w' = w := by
  have h1 := fne h h
  simp only [decide_true, Bool.not_true] at h1
  go_enter Try.func40, Try.ntmps40
  go_wp2
  go_ret
  exact ⟨rfl, rfl⟩
set_option maxHeartbeats 400000 in
theorem newNumber (n : Int) (h : n.natAbs < 2 ^ 53) (w : World) :
    Calls Try.prog 31 #[fl n] w fun e w' => e = .returned (.agg #[.string ⟨#[]⟩, fl n, .string ⟨#[]⟩, .slice none 0 0, .slice none 0 0, .bool false, .string ⟨#[]⟩, .int .u8 1, .pointer none, .pointer none]) ∧ Below w.heap.size w w' := by
  have h1 := feq h (show (0 : Int).natAbs < 2 ^ 53 by decide)
  rw [F_zero] at h1
  have HB := Below.refl w.heap.size w
  go_enter Try.func31, Try.ntmps31
  by_cases h0 : n = 0
  · subst h0
    simp only [decide_true] at h1
    go_wp2_with (go_at_call 40; refine (isNaN 0 h _).mono ?_; rintro e w' ⟨rfl, rfl⟩)
    refine bodyPost_ret (results_cell_row rfl _ _ _ _ _ _ _ rfl (heap_alloc_new _ _) Try.underlying58 rfl (by kernel_rfl)) rfl ?_
    exact ⟨by rw [show fl 0 = .float .f64 0 from by rw [fl, F_zero]], HB.alloc (Nat.le_refl _) _⟩
  · simp only [h0, decide_false] at h1
    go_wp2_with (go_at_call 40; refine (isNaN n h _).mono ?_; rintro e w' ⟨rfl, rfl⟩)
    refine bodyPost_ret (results_cell_row rfl _ _ _ _ _ _ _ rfl (heap_alloc_new _ _) Try.underlying58 rfl (by kernel_rfl)) rfl ?_
    exact ⟨rfl, HB.alloc (Nat.le_refl _) _⟩
set_option maxHeartbeats 400000 in
theorem newMatrix (v : Value) (A : Option Addr) (n c : Nat) (hv : v = .slice A n c) (w : World) :
    Calls Try.prog 33 #[v] w fun e w' => e = .returned (.agg #[.string ⟨#[]⟩, fl 0, .string ⟨#[]⟩, .slice none 0 0, v, .bool false, .string ⟨#[]⟩, .int .u8 4, .pointer none, .pointer none]) ∧ Below w.heap.size w w' := by
  subst hv
  go_enter Try.func33, Try.ntmps33
  go_wp2
  refine bodyPost_ret (results_cell_row rfl _ _ _ _ _ _ _ rfl (heap_alloc_new _ _) Try.underlying58 rfl (by kernel_rfl)) rfl ?_
  exact ⟨by rw [show fl 0 = .float .f64 0 from by rw [fl, F_zero]], (Below.refl _ _).alloc (Nat.le_refl _) _⟩
set_option maxHeartbeats 400000 in
theorem ofNum (n : Int) (h : n.natAbs < 2 ^ 53) (A : Option Addr) (m c : Nat) (w : World) :
    Calls Try.prog 8 #[.agg #[.int .i64 1, .int .i64 n, .int .i64 1, .string ⟨#[]⟩, .slice A m c]] w fun e w' => e = .returned (.agg #[.int .i64 1, fl n, .string ⟨#[]⟩, .slice none 0 0]) ∧ Below w.heap.size w w' := by
  have hq : ∀ w, (binOp .quo 27 (.float .f64 (floatOfInt .f64 n)) (.float .f64 (floatOfInt .f64 1))).run Try.prog w = .ok (.float .f64 (F n)) w := fun w => run_float_arith (P := Try.prog) w .quo 27 .f64 _ _ _ (quo_F h)
  have HB := Below.refl w.heap.size w
  go_enter Try.func8, Try.ntmps8
  go_wp2
  refine bodyPost_ret (results_cell_row rfl _ _ (w.heap.size + 1) 30 #[.int .i64 1, fl n, .string ⟨#[]⟩, .slice none 0 0] (0, 0) _ rfl (by repeat (first | (refine blk_at ?_; simp; done) | refine blk_alloc ?_ _)) Try.underlying30 rfl (by kernel_rfl)) rfl ?_
  exact ⟨rfl, by repeat (first | exact HB | refine Below.alloc ?_ (by simp <;> omega) _)⟩
set_option maxHeartbeats 400000 in
theorem doorFuncs (w : World) :
    Calls Try.prog 22 #[] w fun e w' => (∃ a, e = .returned (.pointer (some a))) ∧ Below w.heap.size w w' := by
  go_enter Try.func22, Try.ntmps22
  go_wp2
  go_ret
  exact ⟨⟨_, rfl⟩, (Below.refl _ _).alloc (Nat.le_refl _) _⟩
end Go.Proofs.Ytedbbekfpficpaa
