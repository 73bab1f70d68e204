/-
  DERIVED. GIVEN WITH THE SEED: THE CARDS: each row of YtljaoopfomcaoaaGreatDoorRows.lean that lists a variable, with what it lists TIED to the program's text (the seventh form; the later family's looks); each row that meets fmt, with fmt's text TOLD by the authors' own Lean function (tested against real Go, not proved from fmt's source: count such statements apart). THE CARD IS WHAT COUNTS. Prove the row's statement (the work); the ties are given (YtljaoopfomcaoaaGreatDoorTie.lean); close each card by the builder's one call (the guide's Derived/Test/ToyasCard.lean, 'card_holds'). Laid BY PROGRAM, IN A SANDBOX (cutbox-door.mjs). By AI agents, Wed Nov 11 2026. No macro, syntax, notation, axiom, sorry.
-/
import Derived.Test.YtljaoopfomcaoaaGreatDoorRows
import GoSem.ClaimSeven
namespace Go.Proofs.YtljaoopfomcaoaaGreatDoor
namespace Rows

/-- THE TIED CARD OF 'laws.FnMtCharts'. -/
def fnMtChartsCard : Claim7 := { stood := { row := fnMtChartsRow, standIns := [], harness := (true, "66a0bcc6875b8bd1e43411598da118b6f09cc551483a43ed2d4f40d4b3b1dd2c"), looks := true }, kinds := [], alts := [], laidByText := true, laidKinds := [.data, .pinned], laidTests := true, laidLooks := .later }
def FnMtChartsCardSaid : Prop := Claim7.holds Tryz.pinned (.plain (OpenSpec.ofChange fnMtChartsSpec)) fnMtChartsCard

/-- THE TIED CARD OF 'laws.FnMtTables'. -/
def fnMtTablesCard : Claim7 := { stood := { row := fnMtTablesRow, standIns := [], harness := (true, "66a0bcc6875b8bd1e43411598da118b6f09cc551483a43ed2d4f40d4b3b1dd2c"), looks := true }, kinds := [], alts := [], laidByText := true, laidKinds := [.data, .data, .data, .data, .sentinel, .sentinel, .pinned], laidTests := true, laidLooks := .later }
def FnMtTablesCardSaid : Prop := Claim7.holds Tryz.pinned (.plain (OpenSpec.ofChange fnMtTablesSpec)) fnMtTablesCard

/-- THE TIED CARD OF 'laws.FnMoRender'. -/
def fnMoRenderCard : Claim7 := { stood := { row := fnMoRenderRow, standIns := [], harness := (true, "66a0bcc6875b8bd1e43411598da118b6f09cc551483a43ed2d4f40d4b3b1dd2c"), looks := true }, kinds := [], alts := [], laidByText := true, laidKinds := [.data, .data, .data, .data, .sentinel, .sentinel, .pinned], laidTests := true, laidLooks := .later }
def FnMoRenderCardSaid : Prop := Claim7.holds Tryz.pinned (.plain (OpenSpec.ofChange fnMoRenderSpec)) fnMoRenderCard

/-- THE SECOND FORM's CARD OF 'laws.FnMtCharts'. -/
def fnMtChartsUptoCard : Claim7 := { stood := { row := fnMtChartsUptoRow, standIns := [], harness := (true, "66a0bcc6875b8bd1e43411598da118b6f09cc551483a43ed2d4f40d4b3b1dd2c"), looks := true }, kinds := [], alts := [], laidByText := true, laidKinds := [.data, .pinned], laidTests := true, laidLooks := .later }
def FnMtChartsUptoCardSaid : Prop := Claim7.holds Tryz.pinned (.plain (OpenSpec.upto fnMtChartsSpec)) fnMtChartsUptoCard

/-- THE SECOND FORM's CARD OF 'laws.FnMtTables'. -/
def fnMtTablesUptoCard : Claim7 := { stood := { row := fnMtTablesUptoRow, standIns := [], harness := (true, "66a0bcc6875b8bd1e43411598da118b6f09cc551483a43ed2d4f40d4b3b1dd2c"), looks := true }, kinds := [], alts := [], laidByText := true, laidKinds := [.data, .data, .data, .data, .sentinel, .sentinel, .pinned], laidTests := true, laidLooks := .later }
def FnMtTablesUptoCardSaid : Prop := Claim7.holds Tryz.pinned (.plain (OpenSpec.upto fnMtTablesSpec)) fnMtTablesUptoCard

/-- THE SECOND FORM's CARD OF 'laws.FnMoRender'. -/
def fnMoRenderUptoCard : Claim7 := { stood := { row := fnMoRenderUptoRow, standIns := [], harness := (true, "66a0bcc6875b8bd1e43411598da118b6f09cc551483a43ed2d4f40d4b3b1dd2c"), looks := true }, kinds := [], alts := [], laidByText := true, laidKinds := [.data, .data, .data, .data, .sentinel, .sentinel, .pinned], laidTests := true, laidLooks := .later }
def FnMoRenderUptoCardSaid : Prop := Claim7.holds Tryz.pinned (.plain (OpenSpec.upto fnMoRenderSpec)) fnMoRenderUptoCard
end Rows
end Go.Proofs.YtljaoopfomcaoaaGreatDoor
