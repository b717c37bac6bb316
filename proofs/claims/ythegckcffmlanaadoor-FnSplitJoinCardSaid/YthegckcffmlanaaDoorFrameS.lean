import Derived.Test.YthegckcffmlanaaDoorFrame
namespace Go.Proofs.YthegckcffmlanaaDoor
open Go.ChangeShapes Go.WideShapes Go.RowKit
/-! ### The list of FnSplitJoin -/
abbrev laidS : List (String × DataW Unit) := Rows.fnSplitJoinRow.laid
theorem met_split (os : Os) (args : Array Value) : laidMetH Tryd.prog laidS ((World.laidAll Tryd.prog os laidS).forCall (fun _ _ => 0) ⟨#[], args, []⟩).memory := by
  rw [MakeChecks.laidMetH_plain _ _ _ (by kernel_rfl)]
  exact laidMet_laidAll _ (by kernel_rfl) (by kernel_rfl)
theorem of_split {W : World} (h : laidMetH Tryd.prog laidS W) : HTabs W ∧ HPow W ∧ HErr 1 W ∧ HErr 3 W ∧ HErr 4 W := by
  rw [MakeChecks.laidMetH_plain _ _ _ (by kernel_rfl)] at h
  refine ⟨tabs_of h (by simp [laidS, Rows.fnSplitJoinRow]) (by simp [laidS, Rows.fnSplitJoinRow]), pow_head h.tail.tail, err_head h.tail.tail.tail.tail.tail.tail (by kernel_rfl) (by kernel_rfl), err_head h.tail.tail.tail.tail.tail (by kernel_rfl) (by kernel_rfl), err_head h.tail.tail.tail.tail (by kernel_rfl) (by kernel_rfl)⟩
end Go.Proofs.YthegckcffmlanaaDoor
