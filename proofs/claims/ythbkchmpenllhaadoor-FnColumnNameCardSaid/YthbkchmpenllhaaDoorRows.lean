/-
  NARROWER THAN 'FOR EVERY INPUT', by the rows' own cells (each row's printed sentence says how): FnColumnOrder: laid · FnColumnNumber: laid · FnColumnName: laid.
  DERIVED. THE GIVEN ROWS OF THIS SEAT. 3 by the template 'for every input the law returns true; each argument reads behind the call as it read before'; 0 by the template 'total and deterministic' (their statements: YthbkchmpenllhaaDoorTotals.lean).
  GIVEN WITH THE SEED: the statements are not yours to turn. If you find one false, say at which input.
  Laid BY PROGRAM, IN A SANDBOX (cutbox-rows.mjs): the forced cells as the released guide's own fill.sh prints them over the translation a3cfc94664779fd3… (all of the seat's roots in one cut). By AI agents, Wed Nov 11 2026. No macro, syntax, notation, axiom, sorry.
-/
import Derived.Test.YthbkchmpenllhaaDoorChecked
import GoSem.Claim
import GoSem.ClaimJoined
import GoSem.ClaimMapViews
import Derived.JoinedTies
import Derived.KernelRfl
namespace Go.Proofs.YthbkchmpenllhaaDoor
/- THE CELL 'sum', in the pinned program and in every row, IS THE sha256 OF THE DUMP (.gsa) THAT YthbkchmpenllhaaDoorProg.lean LOADS. Nothing in Lean hashes anything: it is a label: what it is worth is what the hold of that sum in a sandbox is worth. -/
noncomputable def Tryd.pinned : Pinned := { name := "ythbkchmpenllhaadoor", sum := "a3cfc94664779fd30bdca3785d9d9dda0e919b075c25d144daf0010b79844e8e", checked := Tryd.checked }
namespace Rows
def none {H : Type} : Left H := { results := [], args := [] }

/- WHAT THE LISTED PACKAGE-LEVEL VARIABLES READ AS WHEN THE CALL BEGINS. Each datum BY PROGRAM (the guide's laid-datum.mjs) off the statement by which the dump's own 'gosem.cut.vars' lays the variable. In a bare row this is a premise. The card (YthbkchmpenllhaaDoorCards.lean) ties it to the program's text. -/
def laid_pub_tallysheet_pub_excelize_ErrColumnNumber {H : Type} : DataW H := .iface "*errors.errorString" (.ptr (.agg [.lit (.string [116, 104, 101, 32, 99, 111, 108, 117, 109, 110, 32, 110, 117, 109, 98, 101, 114, 32, 109, 117, 115, 116, 32, 98, 101, 32, 103, 114, 101, 97, 116, 101, 114, 32, 116, 104, 97, 110, 32, 111, 114, 32, 101, 113, 117, 97, 108, 32, 116, 111, 32, 49, 32, 97, 110, 100, 32, 108, 101, 115, 115, 32, 116, 104, 97, 110, 32, 111, 114, 32, 101, 113, 117, 97, 108, 32, 116, 111, 32, 49, 54, 51, 56, 52])]))

/-- 'laws.FnColumnOrder': WHATEVER THE INPUT: true; the input reads as it did. -/
def fnColumnOrderSpec : ChangeSpec := { name := "fnColumnOrder", fn := fun _ => fun
  | [d1, d2] => { results := [.lit (.bool true)], args := [d1, d2] }
  | _ => none }
def fnColumnOrderRow : OpenClaim := { program := "ythbkchmpenllhaadoor", sum := "a3cfc94664779fd30bdca3785d9d9dda0e919b075c25d144daf0010b79844e8e", func := "pub-tallysheet/laws.FnColumnOrder", spec := "fnColumnOrder", named := ["pub-tallysheet/pub/excelize.ErrColumnNumber"], apart := false, laid := [("pub-tallysheet/pub/excelize.ErrColumnNumber", laid_pub_tallysheet_pub_excelize_ErrColumnNumber)] }
def FnColumnOrderSaid : Prop := fnColumnOrderRow.holds Tryd.pinned (OpenSpec.ofChange fnColumnOrderSpec)

/-- ITS FALSE NEIGHBOUR: 'it returns false'. Refute it at one input. -/
def fnColumnOrderWrong : ChangeSpec := { name := "fnColumnOrder", fn := fun _ => fun
  | [d1, d2] => { results := [.lit (.bool false)], args := [d1, d2] }
  | _ => none }
def FnColumnOrderWrongFalsely : Prop := fnColumnOrderRow.holds Tryd.pinned (OpenSpec.ofChange fnColumnOrderWrong)

/-- 'laws.FnColumnNumber': WHATEVER THE INPUT: true; the input reads as it did. -/
def fnColumnNumberSpec : ChangeSpec := { name := "fnColumnNumber", fn := fun _ => fun
  | [d] => { results := [.lit (.bool true)], args := [d] }
  | _ => none }
def fnColumnNumberRow : OpenClaim := { program := "ythbkchmpenllhaadoor", sum := "a3cfc94664779fd30bdca3785d9d9dda0e919b075c25d144daf0010b79844e8e", func := "pub-tallysheet/laws.FnColumnNumber", spec := "fnColumnNumber", named := ["pub-tallysheet/pub/excelize.ErrColumnNumber"], apart := false, laid := [("pub-tallysheet/pub/excelize.ErrColumnNumber", laid_pub_tallysheet_pub_excelize_ErrColumnNumber)] }
def FnColumnNumberSaid : Prop := fnColumnNumberRow.holds Tryd.pinned (OpenSpec.ofChange fnColumnNumberSpec)

/-- ITS FALSE NEIGHBOUR: 'it returns false'. Refute it at one input. -/
def fnColumnNumberWrong : ChangeSpec := { name := "fnColumnNumber", fn := fun _ => fun
  | [d] => { results := [.lit (.bool false)], args := [d] }
  | _ => none }
def FnColumnNumberWrongFalsely : Prop := fnColumnNumberRow.holds Tryd.pinned (OpenSpec.ofChange fnColumnNumberWrong)

/-- 'laws.FnColumnName': WHATEVER THE INPUT: true; the input reads as it did. -/
def fnColumnNameSpec : ChangeSpec := { name := "fnColumnName", fn := fun _ => fun
  | [d] => { results := [.lit (.bool true)], args := [d] }
  | _ => none }
def fnColumnNameRow : OpenClaim := { program := "ythbkchmpenllhaadoor", sum := "a3cfc94664779fd30bdca3785d9d9dda0e919b075c25d144daf0010b79844e8e", func := "pub-tallysheet/laws.FnColumnName", spec := "fnColumnName", named := ["pub-tallysheet/pub/excelize.ErrColumnNumber"], apart := false, laid := [("pub-tallysheet/pub/excelize.ErrColumnNumber", laid_pub_tallysheet_pub_excelize_ErrColumnNumber)] }
def FnColumnNameSaid : Prop := fnColumnNameRow.holds Tryd.pinned (OpenSpec.ofChange fnColumnNameSpec)

/-- ITS FALSE NEIGHBOUR: 'it returns false'. Refute it at one input. -/
def fnColumnNameWrong : ChangeSpec := { name := "fnColumnName", fn := fun _ => fun
  | [d] => { results := [.lit (.bool false)], args := [d] }
  | _ => none }
def FnColumnNameWrongFalsely : Prop := fnColumnNameRow.holds Tryd.pinned (OpenSpec.ofChange fnColumnNameWrong)

/- THE SECOND FORM. 'bulk': how many values and letters a reading holds, each counted each time it is reached (what is shared counts as often as it is met; a slice's spare places count too). A statement '..UptoSaid' is the law's where the arguments, and the package variables that the reading takes, are together of bulk at most 1048576: NARROWER than '..Said'. Prove '..Said' where nothing that the law and all that it calls make is longer than what came in: it says more and counts as full. Else prove '..UptoSaid'. A law counts once. -/
mutual
def uptoBulk {H : Type} : DataW H → Nat
  | .lit (.string bytes) => bytes.length + 1
  | .lit _ => 1
  | .nil => 1
  | .ptr d => uptoBulk d + 1
  | .slice elems spare => uptoBulkAll elems + uptoBulkAll spare + 1
  | .agg parts => uptoBulkAll parts + 1
  | .iface _ d => uptoBulk d + 1
  | .map entries => uptoBulkEntries entries + 1
  | .held _ => 1
def uptoBulkAll {H : Type} : List (DataW H) → Nat
  | [] => 0
  | d :: r => uptoBulk d + uptoBulkAll r
def uptoBulkEntries {H : Type} : List (Lit × DataW H) → Nat
  | [] => 0
  | x :: r => uptoBulkEntry x + uptoBulkEntries r
def uptoBulkEntry {H : Type} : Lit × DataW H → Nat
  | (.string bytes, d) => bytes.length + uptoBulk d + 1
  | (_, d) => uptoBulk d + 1
 end
def uptoSmall : (H : Type) → List (DataW H) → Bool := fun _ ds => decide (uptoBulkAll ds ≤ 1048576)
def OpenSpec.upto (s : _root_.Go.ChangeSpec) : _root_.Go.OpenSpec := { _root_.Go.OpenSpec.ofChange s with cond := some uptoSmall }

/-- 'laws.FnColumnOrder', WHERE WHAT IT READS IS OF BULK AT MOST 1048576: true; the input reads as it did. -/
def fnColumnOrderUptoRow : OpenClaim := { program := "ythbkchmpenllhaadoor", sum := "a3cfc94664779fd30bdca3785d9d9dda0e919b075c25d144daf0010b79844e8e", func := "pub-tallysheet/laws.FnColumnOrder", spec := "fnColumnOrder", named := ["pub-tallysheet/pub/excelize.ErrColumnNumber"], apart := false, laid := [("pub-tallysheet/pub/excelize.ErrColumnNumber", laid_pub_tallysheet_pub_excelize_ErrColumnNumber)], narrowed := true }
def FnColumnOrderUptoSaid : Prop := fnColumnOrderUptoRow.holds Tryd.pinned (OpenSpec.upto fnColumnOrderSpec)

/-- 'laws.FnColumnNumber', WHERE WHAT IT READS IS OF BULK AT MOST 1048576: true; the input reads as it did. -/
def fnColumnNumberUptoRow : OpenClaim := { program := "ythbkchmpenllhaadoor", sum := "a3cfc94664779fd30bdca3785d9d9dda0e919b075c25d144daf0010b79844e8e", func := "pub-tallysheet/laws.FnColumnNumber", spec := "fnColumnNumber", named := ["pub-tallysheet/pub/excelize.ErrColumnNumber"], apart := false, laid := [("pub-tallysheet/pub/excelize.ErrColumnNumber", laid_pub_tallysheet_pub_excelize_ErrColumnNumber)], narrowed := true }
def FnColumnNumberUptoSaid : Prop := fnColumnNumberUptoRow.holds Tryd.pinned (OpenSpec.upto fnColumnNumberSpec)

/-- 'laws.FnColumnName', WHERE WHAT IT READS IS OF BULK AT MOST 1048576: true; the input reads as it did. -/
def fnColumnNameUptoRow : OpenClaim := { program := "ythbkchmpenllhaadoor", sum := "a3cfc94664779fd30bdca3785d9d9dda0e919b075c25d144daf0010b79844e8e", func := "pub-tallysheet/laws.FnColumnName", spec := "fnColumnName", named := ["pub-tallysheet/pub/excelize.ErrColumnNumber"], apart := false, laid := [("pub-tallysheet/pub/excelize.ErrColumnNumber", laid_pub_tallysheet_pub_excelize_ErrColumnNumber)], narrowed := true }
def FnColumnNameUptoSaid : Prop := fnColumnNameUptoRow.holds Tryd.pinned (OpenSpec.upto fnColumnNameSpec)

end Rows
end Go.Proofs.YthbkchmpenllhaaDoor
