import Derived.Test.YtedbbekfpficpaaEq
set_option linter.unusedSimpArgs false
set_option linter.unusedVariables false
namespace Go.Proofs.Ytedbbekfpficpaa
open Go.RowKit Go.Proofs.YtedbbekfpficpaaW.PrintWords Go.Proofs.YtedbbekfpficpaaW.PrintLast Fl
/-- The number of a part, from nought to five. -/
def sixth (k : Int) : Nat := (k % 6).toNat
theorem sixth_lt (k : Int) : sixth k < 6 := by
  unfold sixth
  have := Int.emod_lt_of_pos k (show (0 : Int) < 6 by decide)
  have := Int.emod_nonneg k (show (6 : Int) ≠ 0 by decide)
  omega
set_option maxHeartbeats 400000 in
theorem part_ (k : Int) (w : World) :
    Calls Try.prog 9 #[.int .i64 k, .int .i64 6] w fun e w' => e = .returned (.int .i64 (sixth k : Int)) ∧ w = w' := by
  have h6 : ((6 : Int) = 0) = False := by simp
  by_cases h : k.tmod 6 < 0
  · have h0 : decide (k.tmod 6 < 0) = true := decide_eq_true h
    have hb : -6 < k.tmod 6 := by have := Int.lt_tmod_of_pos k (show (0 : Int) < 6 by decide); omega
    have he : k.tmod 6 + 6 = (sixth k : Int) := by
      unfold sixth
      have h1 := Int.emod_nonneg k (show (6 : Int) ≠ 0 by decide)
      have h2 := Int.emod_lt_of_pos k (show (0 : Int) < 6 by decide)
      have h3 := Int.emod_add_mul_ediv k 6
      have h4 := Int.tmod_add_mul_tdiv k 6
      omega
    go_enter Try.func9, Try.ntmps9
    go_wp2
    go_ret
    exact ⟨rfl, rfl⟩
  · have h0 : decide (k.tmod 6 < 0) = false := decide_eq_false h
    have he : k.tmod 6 = (sixth k : Int) := by
      unfold sixth
      have h1 := Int.emod_nonneg k (show (6 : Int) ≠ 0 by decide)
      have h2 := Int.emod_lt_of_pos k (show (0 : Int) < 6 by decide)
      have h3 := Int.emod_add_mul_ediv k 6
      have h4 := Int.tmod_add_mul_tdiv k 6
      have h5 := Int.tmod_lt_of_pos k (show (0 : Int) < 6 by decide)
      omega
    go_enter Try.func9, Try.ntmps9
    go_wp2
    go_ret
    exact ⟨rfl, rfl⟩
end Go.Proofs.Ytedbbekfpficpaa
