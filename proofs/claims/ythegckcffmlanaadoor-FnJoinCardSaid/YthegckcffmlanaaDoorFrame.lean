import Derived.Test.YthegckcffmlanaaDoorRows
import Derived.Test.YthegckcffmlanaaDoorEnv
import Derived.ProofKit
import Derived.OpenShut
import Derived.LaidMore
import Derived.Lay
import Derived.PinnedBridge
import Derived.Lib.LaidU8
import Derived.Stop.Joined
import Derived.Stop.LaidErr
namespace Go.Proofs.YthegckcffmlanaaDoor
open Go.ChangeShapes Go.WideShapes Go.RowKit

theorem own : ownKnob Tryd.prog.godebug = none := by kernel_rfl
theorem cells77 : Tryd.prog.cellsOf 77 = 1 := by kernel_rfl
theorem cells9 : Tryd.prog.cellsOf 9 = 1 := by kernel_rfl
theorem star : "*" ++ "errors.errorString" = "*errors.errorString" := by decide
theorem row75 (u : TypeId) (h : Tryd.prog.typeName? 3 u = some "*errors.errorString") : u = 75 :=
  typeName_ptr_named (nm := "errors.errorString") (by rw [star]; kernel_rfl) (by kernel_rfl) (by decide) u (by rw [star]; exact h)
theorem err_head {n : String} {text : List UInt8} {r : List (String × DataW Unit)} {W : World} {g : Nat}
    (h : laidMet Tryd.prog ((n, .iface "*errors.errorString" (.ptr (.agg [.lit (.string text)]))) :: r) W) (hg : Tryd.prog.globalNamed n = some g) (ht : (Tryd.prog.globals[g]?).map (·.type) = some 42) : HErr g W := by
  obtain ⟨a0, s0, hv0, hc0, hs0, hz0⟩ := laid_sentinel h hg ht Tryd.underlying42 row75 Tryd.underlying75 Tryd.underlying77 rfl rfl Tryd.underlying9 cells77 cells9
  exact ⟨a0, by simpa using World.var?_cell hg hv0 0⟩
theorem pow_head {r : List (String × DataW Unit)} {W : World} (h : laidMet Tryd.prog (("internal/strconv.uint64pow10", Rows.laid_internal_strconv_uint64pow10) :: r) W) : HPow W :=
  Lib.tabIs_of_head (zs := Lib.pow10Tab) gPow (by kernel_rfl) Tryd.underlying121 Tryd.underlying100 (by kernel_rfl) (by kernel_rfl) h
abbrev laidJ : List (String × DataW Unit) := Rows.fnJoinRow.laid
theorem met_join (os : Os) (args : Array Value) : laidMetH Tryd.prog laidJ ((World.laidAll Tryd.prog os laidJ).forCall (fun _ _ => 0) ⟨#[], args, []⟩).memory := by
  rw [MakeChecks.laidMetH_plain _ _ _ (by kernel_rfl)]
  exact laidMet_laidAll _ (by kernel_rfl) (by kernel_rfl)
theorem of_join {W : World} (h : laidMetH Tryd.prog laidJ W) : HErr 1 W ∧ HPow W := by
  rw [MakeChecks.laidMetH_plain _ _ _ (by kernel_rfl)] at h
  exact ⟨err_head h.tail.tail.tail.tail (by kernel_rfl) (by kernel_rfl), pow_head h.tail.tail⟩
end Go.Proofs.YthegckcffmlanaaDoor
