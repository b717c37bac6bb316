import Derived.Test.YthbkchmpenllhaaDoorRows
import Derived.ProofKit
import Derived.OpenShut
import Derived.LaidMore
import Derived.Stop.Joined
import Derived.Stop.LaidErr
namespace Go.Proofs.YthbkchmpenllhaaDoor
open Go.ChangeShapes Go.WideShapes Go.RowKit

theorem own : ownKnob Tryd.prog.godebug = none := by kernel_rfl
theorem gErr : Tryd.prog.globalNamed "pub-tallysheet/pub/excelize.ErrColumnNumber" = some 0 := by kernel_rfl
theorem gErrType : (Tryd.prog.globals[0]?).map (·.type) = some 32 := by kernel_rfl
theorem cells43 : Tryd.prog.cellsOf 43 = 1 := by kernel_rfl
theorem cells9 : Tryd.prog.cellsOf 9 = 1 := by kernel_rfl
theorem star : "*" ++ "errors.errorString" = "*errors.errorString" := by decide
theorem row41 (u : TypeId) (h : Tryd.prog.typeName? 3 u = some "*errors.errorString") : u = 41 :=
  typeName_ptr_named (nm := "errors.errorString") (by rw [star]; kernel_rfl) (by kernel_rfl) (by decide) u (by rw [star]; exact h)
abbrev laidL {H : Type} : List (String × DataW H) := [("pub-tallysheet/pub/excelize.ErrColumnNumber", Rows.laid_pub_tallysheet_pub_excelize_ErrColumnNumber)]
/-- The door's own heap meets the condition. -/
theorem door_met (os : Os) (args : Array Value) : laidMetH Tryd.prog laidL ((World.doorLaid Tryd.prog 400 os).forCall (fun _ _ => 0) ⟨#[], args, []⟩).memory :=
  laidMetH_of_parts3 (fuel := 8) (laidMet_of_run' 8 (by kernel_rfl) (by kernel_rfl)) (by kernel_rfl) (by kernel_rfl)
/-- What the condition gives the walks: the variable's cell. -/
theorem err_of_laid {W : World} (h : laidMetH Tryd.prog laidL W) : ∃ a, W.cell? ⟨0, 0, none⟩ = some (.iface 41 (.pointer (some a))) := by
  rw [MakeChecks.laidMetH_plain _ _ _ (by kernel_rfl)] at h
  obtain ⟨a0, s0, hv0, hc0, hs0, hz0⟩ := laid_sentinel h gErr gErrType Tryd.underlying32 row41 Tryd.underlying41 Tryd.underlying43 rfl rfl Tryd.underlying9 cells43 cells9
  exact ⟨a0, by simpa using World.var?_cell gErr hv0 0⟩
end Go.Proofs.YthbkchmpenllhaaDoor
