import Derived.Test.YthegckcffmlanaaDoorRows
import Derived.Test.YthegckcffmlanaaDoorEnv
import Derived.ProofKit
import Derived.OpenShut
import Derived.LaidMore
import Derived.Lay
import Derived.PinnedBridge
import Derived.Lib.LaidU8T
import Derived.Stop.Joined
import Derived.Stop.LaidErr
namespace Go.Proofs.YthegckcffmlanaaDoor
open Go.ChangeShapes Go.WideShapes Go.RowKit

theorem own : ownKnob Tryd.prog.godebug = none := by kernel_rfl
theorem cells77 : Tryd.prog.cellsOf 77 = 1 := by kernel_rfl
theorem cells9 : Tryd.prog.cellsOf 9 = 1 := by kernel_rfl
theorem star : "*" ++ "errors.errorString" = "*errors.errorString" := by decide
theorem row75 (u : TypeId) (h : Tryd.prog.typeName? 3 u = some "*errors.errorString") : u = 75 :=
  typeName_ptr_named (nm := "errors.errorString") (by rw [star]; kernel_rfl) (by kernel_rfl) (by decide) u (by rw [star]; exact h)
theorem err_head {n : String} {text : List UInt8} {r : List (String × DataW Unit)} {W : World} {g : Nat}
    (h : laidMet Tryd.prog ((n, .iface "*errors.errorString" (.ptr (.agg [.lit (.string text)]))) :: r) W) (hg : Tryd.prog.globalNamed n = some g) (ht : (Tryd.prog.globals[g]?).map (·.type) = some 42) : HErr g W := by
  obtain ⟨a0, s0, hv0, hc0, hs0, hz0⟩ := laid_sentinel h hg ht Tryd.underlying42 row75 Tryd.underlying75 Tryd.underlying77 rfl rfl Tryd.underlying9 cells77 cells9
  exact ⟨a0, by simpa using World.var?_cell hg hv0 0⟩
theorem pow_head {r : List (String × DataW Unit)} {W : World} (h : laidMet Tryd.prog (("internal/strconv.uint64pow10", Rows.laid_internal_strconv_uint64pow10) :: r) W) : HPow W :=
  Lib.tabIs_of_head (zs := Lib.pow10Tab) gPow (by kernel_rfl) Tryd.underlying121 Tryd.underlying100 (by kernel_rfl) (by kernel_rfl) h
abbrev laidJ : List (String × DataW Unit) := Rows.fnJoinRow.laid
theorem met_join (os : Os) (args : Array Value) : laidMetH Tryd.prog laidJ ((World.laidAll Tryd.prog os laidJ).forCall (fun _ _ => 0) ⟨#[], args, []⟩).memory := by
  rw [MakeChecks.laidMetH_plain _ _ _ (by kernel_rfl)]
  exact laidMet_laidAll _ (by kernel_rfl) (by kernel_rfl)
theorem of_join {W : World} (h : laidMetH Tryd.prog laidJ W) : HErr 1 W ∧ HPow W := by
  rw [MakeChecks.laidMetH_plain _ _ _ (by kernel_rfl)] at h
  exact ⟨err_head h.tail.tail.tail.tail (by kernel_rfl) (by kernel_rfl), pow_head h.tail.tail⟩
/-! ### The list of FnCellText, and of FnCellName -/
abbrev laidT : List (String × DataW Unit) := Rows.fnCellTextRow.laid
theorem met_text (os : Os) (args : Array Value) : laidMetH Tryd.prog laidT ((World.laidAll Tryd.prog os laidT).forCall (fun _ _ => 0) ⟨#[], args, []⟩).memory := by
  rw [MakeChecks.laidMetH_plain _ _ _ (by kernel_rfl)]
  exact laidMet_laidAll _ (by kernel_rfl) (by kernel_rfl)
theorem u8types : Proofs.U8Types Tryd.prog Tryd.lays273_ren := ⟨Tryd.underlying5, Tryd.underlying111, Tryd.underlying113, Tryd.underlying114⟩
theorem u8extra : Proofs.U8Extra Tryd.prog Tryd.lays273_ren := ⟨by kernel_rfl, by kernel_rfl, by kernel_rfl, by kernel_rfl, by kernel_rfl, by kernel_rfl, by kernel_rfl⟩
theorem tabs_of {l : List (String × DataW Unit)} {W : World} (h : laidMet Tryd.prog l W) (h1 : ("unicode/utf8.first", Rows.laid_unicode_utf8_first) ∈ l) (h2 : ("unicode/utf8.acceptRanges", Rows.laid_unicode_utf8_acceptRanges) ∈ l) : HTabs W := by
  have e1 : Rows.laid_unicode_utf8_first = Lib.firstData := Pinned.utf8First_eq
  have e2 : (Rows.laid_unicode_utf8_acceptRanges : DataW Unit) = Lib.acceptData := by kernel_rfl
  rw [e1] at h1
  rw [e2] at h2
  exact Proofs.utf8Tabs_of_readsT u8types u8extra (Lib.laidMet.reads h h1) (Lib.laidMet.reads h h2)
theorem of_text {W : World} (h : laidMetH Tryd.prog laidT W) : HTabs W ∧ HPow W ∧ HErr 0 W ∧ HErr 1 W ∧ HErr 3 W ∧ HErr 4 W := by
  rw [MakeChecks.laidMetH_plain _ _ _ (by kernel_rfl)] at h
  refine ⟨tabs_of h (by simp [laidT, Rows.fnCellTextRow]) (by simp [laidT, Rows.fnCellTextRow]), pow_head h.tail.tail, err_head h.tail.tail.tail.tail.tail.tail.tail (by kernel_rfl) (by kernel_rfl), err_head h.tail.tail.tail.tail.tail.tail (by kernel_rfl) (by kernel_rfl), err_head h.tail.tail.tail.tail.tail (by kernel_rfl) (by kernel_rfl), err_head h.tail.tail.tail.tail (by kernel_rfl) (by kernel_rfl)⟩
end Go.Proofs.YthegckcffmlanaaDoor
