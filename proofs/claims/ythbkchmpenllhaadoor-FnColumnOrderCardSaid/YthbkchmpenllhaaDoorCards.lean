/-
  DERIVED. GIVEN WITH THE SEED: THE CARDS: each row of YthbkchmpenllhaaDoorRows.lean that lists a variable, with what it lists TIED to the program's text (the seventh form; the later family's looks); each row that meets fmt, with fmt's text TOLD by the authors' own Lean function (tested against real Go, not proved from fmt's source: count such statements apart). THE CARD IS WHAT COUNTS. Prove the row's statement (the work); the ties are given (YthbkchmpenllhaaDoorTie.lean); close each card by the builder's one call (the guide's Derived/Test/ToyasCard.lean, 'card_holds'). Laid BY PROGRAM, IN A SANDBOX (cutbox-door.mjs). By AI agents, Wed Nov 11 2026. No macro, syntax, notation, axiom, sorry.
-/
import Derived.Test.YthbkchmpenllhaaDoorRows
import GoSem.ClaimSeven
namespace Go.Proofs.YthbkchmpenllhaaDoor
namespace Rows

/-- THE TIED CARD OF 'laws.FnColumnOrder'. -/
def fnColumnOrderCard : Claim7 := { stood := { row := fnColumnOrderRow, standIns := [], harness := (true, "ce2f6f9579a3e4b8d2b0cab7d94d7e0e9df14df4b81aa3e9165bed9c89f741f1"), looks := false }, kinds := [], alts := [], laidByText := true, laidKinds := [.sentinel], laidTests := true, laidLooks := .later }
def FnColumnOrderCardSaid : Prop := Claim7.holds Tryd.pinned (.plain (OpenSpec.ofChange fnColumnOrderSpec)) fnColumnOrderCard

/-- THE TIED CARD OF 'laws.FnColumnNumber'. -/
def fnColumnNumberCard : Claim7 := { stood := { row := fnColumnNumberRow, standIns := [], harness := (true, "ce2f6f9579a3e4b8d2b0cab7d94d7e0e9df14df4b81aa3e9165bed9c89f741f1"), looks := false }, kinds := [], alts := [], laidByText := true, laidKinds := [.sentinel], laidTests := true, laidLooks := .later }
def FnColumnNumberCardSaid : Prop := Claim7.holds Tryd.pinned (.plain (OpenSpec.ofChange fnColumnNumberSpec)) fnColumnNumberCard

/-- THE TIED CARD OF 'laws.FnColumnName'. -/
def fnColumnNameCard : Claim7 := { stood := { row := fnColumnNameRow, standIns := [], harness := (true, "ce2f6f9579a3e4b8d2b0cab7d94d7e0e9df14df4b81aa3e9165bed9c89f741f1"), looks := false }, kinds := [], alts := [], laidByText := true, laidKinds := [.sentinel], laidTests := true, laidLooks := .later }
def FnColumnNameCardSaid : Prop := Claim7.holds Tryd.pinned (.plain (OpenSpec.ofChange fnColumnNameSpec)) fnColumnNameCard

/-- THE SECOND FORM's CARD OF 'laws.FnColumnOrder'. -/
def fnColumnOrderUptoCard : Claim7 := { stood := { row := fnColumnOrderUptoRow, standIns := [], harness := (true, "ce2f6f9579a3e4b8d2b0cab7d94d7e0e9df14df4b81aa3e9165bed9c89f741f1"), looks := false }, kinds := [], alts := [], laidByText := true, laidKinds := [.sentinel], laidTests := true, laidLooks := .later }
def FnColumnOrderUptoCardSaid : Prop := Claim7.holds Tryd.pinned (.plain (OpenSpec.upto fnColumnOrderSpec)) fnColumnOrderUptoCard

/-- THE SECOND FORM's CARD OF 'laws.FnColumnNumber'. -/
def fnColumnNumberUptoCard : Claim7 := { stood := { row := fnColumnNumberUptoRow, standIns := [], harness := (true, "ce2f6f9579a3e4b8d2b0cab7d94d7e0e9df14df4b81aa3e9165bed9c89f741f1"), looks := false }, kinds := [], alts := [], laidByText := true, laidKinds := [.sentinel], laidTests := true, laidLooks := .later }
def FnColumnNumberUptoCardSaid : Prop := Claim7.holds Tryd.pinned (.plain (OpenSpec.upto fnColumnNumberSpec)) fnColumnNumberUptoCard

/-- THE SECOND FORM's CARD OF 'laws.FnColumnName'. -/
def fnColumnNameUptoCard : Claim7 := { stood := { row := fnColumnNameUptoRow, standIns := [], harness := (true, "ce2f6f9579a3e4b8d2b0cab7d94d7e0e9df14df4b81aa3e9165bed9c89f741f1"), looks := false }, kinds := [], alts := [], laidByText := true, laidKinds := [.sentinel], laidTests := true, laidLooks := .later }
def FnColumnNameUptoCardSaid : Prop := Claim7.holds Tryd.pinned (.plain (OpenSpec.upto fnColumnNameSpec)) fnColumnNameUptoCard
end Rows
end Go.Proofs.YthbkchmpenllhaaDoor
