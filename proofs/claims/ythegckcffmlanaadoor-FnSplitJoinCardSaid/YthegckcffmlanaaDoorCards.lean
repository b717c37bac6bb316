/-
  DERIVED. GIVEN WITH THE SEED: THE CARDS: each row of YthegckcffmlanaaDoorRows.lean that lists a variable, with what it lists TIED to the program's text (the seventh form; the later family's looks); each row that meets fmt, with fmt's text TOLD by the authors' own Lean function (tested against real Go, not proved from fmt's source: count such statements apart). THE CARD IS WHAT COUNTS. Prove the row's statement (the work); the ties are given (YthegckcffmlanaaDoorTie.lean); close each card by the builder's one call (the guide's Derived/Test/ToyasCard.lean, 'card_holds'). Laid BY PROGRAM, IN A SANDBOX (cutbox-door.mjs). By AI agents, Wed Nov 11 2026. No macro, syntax, notation, axiom, sorry.
-/
import Derived.Test.YthegckcffmlanaaDoorRows
import GoSem.ClaimSeven
namespace Go.Proofs.YthegckcffmlanaaDoor
namespace Rows

/-- THE TIED CARD OF 'laws.FnJoin'. -/
def fnJoinCard : Claim7 := { stood := { row := fnJoinRow, standIns := [], harness := (true, "4d0cc95ba1167d0e3c54e97215bb7edcdf151e20d268eeaf6f1c6b033dce6d2a"), looks := true }, kinds := [], alts := [], laidByText := true, laidKinds := [.data, .data, .data, .data, .sentinel, .pinned, .pinned], laidTests := true, laidLooks := .later }
def FnJoinCardSaid : Prop := Claim7.holds Tryd.pinned (.plain (OpenSpec.ofChange fnJoinSpec)) fnJoinCard

/-- THE TIED CARD OF 'laws.FnCellText'. -/
def fnCellTextCard : Claim7 := { stood := { row := fnCellTextRow, standIns := [], harness := (true, "4d0cc95ba1167d0e3c54e97215bb7edcdf151e20d268eeaf6f1c6b033dce6d2a"), looks := true }, kinds := [], alts := [], laidByText := true, laidKinds := [.data, .data, .data, .data, .sentinel, .sentinel, .sentinel, .sentinel, .pinned], laidTests := true, laidLooks := .later }
def FnCellTextCardSaid : Prop := Claim7.holds Tryd.pinned (.plain (OpenSpec.ofChange fnCellTextSpec)) fnCellTextCard

/-- THE TIED CARD OF 'laws.FnCellName'. -/
def fnCellNameCard : Claim7 := { stood := { row := fnCellNameRow, standIns := [], harness := (true, "4d0cc95ba1167d0e3c54e97215bb7edcdf151e20d268eeaf6f1c6b033dce6d2a"), looks := true }, kinds := [], alts := [], laidByText := true, laidKinds := [.data, .data, .data, .data, .sentinel, .sentinel, .sentinel, .sentinel, .pinned], laidTests := true, laidLooks := .later }
def FnCellNameCardSaid : Prop := Claim7.holds Tryd.pinned (.plain (OpenSpec.ofChange fnCellNameSpec)) fnCellNameCard

/-- THE TIED CARD OF 'laws.FnSplitJoin'. -/
def fnSplitJoinCard : Claim7 := { stood := { row := fnSplitJoinRow, standIns := [], harness := (true, "4d0cc95ba1167d0e3c54e97215bb7edcdf151e20d268eeaf6f1c6b033dce6d2a"), looks := true }, kinds := [], alts := [], laidByText := true, laidKinds := [.data, .data, .data, .data, .sentinel, .sentinel, .sentinel, .pinned, .pinned], laidTests := true, laidLooks := .later }
def FnSplitJoinCardSaid : Prop := Claim7.holds Tryd.pinned (.plain (OpenSpec.ofChange fnSplitJoinSpec)) fnSplitJoinCard

/-- THE SECOND FORM's CARD OF 'laws.FnJoin'. -/
def fnJoinUptoCard : Claim7 := { stood := { row := fnJoinUptoRow, standIns := [], harness := (true, "4d0cc95ba1167d0e3c54e97215bb7edcdf151e20d268eeaf6f1c6b033dce6d2a"), looks := true }, kinds := [], alts := [], laidByText := true, laidKinds := [.data, .data, .data, .data, .sentinel, .pinned, .pinned], laidTests := true, laidLooks := .later }
def FnJoinUptoCardSaid : Prop := Claim7.holds Tryd.pinned (.plain (OpenSpec.upto fnJoinSpec)) fnJoinUptoCard

/-- THE SECOND FORM's CARD OF 'laws.FnCellText'. -/
def fnCellTextUptoCard : Claim7 := { stood := { row := fnCellTextUptoRow, standIns := [], harness := (true, "4d0cc95ba1167d0e3c54e97215bb7edcdf151e20d268eeaf6f1c6b033dce6d2a"), looks := true }, kinds := [], alts := [], laidByText := true, laidKinds := [.data, .data, .data, .data, .sentinel, .sentinel, .sentinel, .sentinel, .pinned], laidTests := true, laidLooks := .later }
def FnCellTextUptoCardSaid : Prop := Claim7.holds Tryd.pinned (.plain (OpenSpec.upto fnCellTextSpec)) fnCellTextUptoCard

/-- THE SECOND FORM's CARD OF 'laws.FnCellName'. -/
def fnCellNameUptoCard : Claim7 := { stood := { row := fnCellNameUptoRow, standIns := [], harness := (true, "4d0cc95ba1167d0e3c54e97215bb7edcdf151e20d268eeaf6f1c6b033dce6d2a"), looks := true }, kinds := [], alts := [], laidByText := true, laidKinds := [.data, .data, .data, .data, .sentinel, .sentinel, .sentinel, .sentinel, .pinned], laidTests := true, laidLooks := .later }
def FnCellNameUptoCardSaid : Prop := Claim7.holds Tryd.pinned (.plain (OpenSpec.upto fnCellNameSpec)) fnCellNameUptoCard

/-- THE SECOND FORM's CARD OF 'laws.FnSplitJoin'. -/
def fnSplitJoinUptoCard : Claim7 := { stood := { row := fnSplitJoinUptoRow, standIns := [], harness := (true, "4d0cc95ba1167d0e3c54e97215bb7edcdf151e20d268eeaf6f1c6b033dce6d2a"), looks := true }, kinds := [], alts := [], laidByText := true, laidKinds := [.data, .data, .data, .data, .sentinel, .sentinel, .sentinel, .pinned, .pinned], laidTests := true, laidLooks := .later }
def FnSplitJoinUptoCardSaid : Prop := Claim7.holds Tryd.pinned (.plain (OpenSpec.upto fnSplitJoinSpec)) fnSplitJoinUptoCard
end Rows
end Go.Proofs.YthegckcffmlanaaDoor
