/-
  DERIVED. GIVEN WITH THE SEED: THE CARDS: each row of YtdcijhdjddiboaaDoorRows.lean that lists a variable, with what it lists TIED to the program's text (the seventh form; the later family's looks); each row that meets fmt, with fmt's text TOLD by the authors' own Lean function (tested against real Go, not proved from fmt's source: count such statements apart). THE CARD IS WHAT COUNTS. Prove the row's statement (the work); the ties are given (YtdcijhdjddiboaaDoorTie.lean); close each card by the builder's one call (the guide's Derived/Test/ToyasCard.lean, 'card_holds'). Laid BY PROGRAM, IN A SANDBOX (cutbox-door.mjs). By AI agents, Wed Nov 11 2026. No macro, syntax, notation, axiom, sorry.
-/
import Derived.Test.YtdcijhdjddiboaaDoorRows
import GoSem.ClaimSeven
namespace Go.Proofs.YtdcijhdjddiboaaDoor
namespace Rows

/-- THE TIED CARD OF 'laws.FnDecide'. -/
def fnDecideCard : Claim7 := { stood := { row := fnDecideRow, standIns := [], harness := (true, "978ee88816243b6105f028aef50a1b32ebc72b9514cfc5cc9a9810598ffff139"), looks := true }, kinds := [], alts := [], laidByText := true, laidKinds := [.data, .data, .data, .sentinel, .sentinel], laidTests := true, laidLooks := .later }
def FnDecideCardSaid : Prop := Claim7.holds Tryd.pinned (.plain (OpenSpec.ofChange fnDecideSpec)) fnDecideCard

/-- THE TIED CARD OF 'laws.FnDecideBounds'. -/
def fnDecideBoundsCard : Claim7 := { stood := { row := fnDecideBoundsRow, standIns := [], harness := (true, "978ee88816243b6105f028aef50a1b32ebc72b9514cfc5cc9a9810598ffff139"), looks := true }, kinds := [], alts := [], laidByText := true, laidKinds := [.data, .data, .data, .sentinel, .sentinel], laidTests := true, laidLooks := .later }
def FnDecideBoundsCardSaid : Prop := Claim7.holds Tryd.pinned (.plain (OpenSpec.ofChange fnDecideBoundsSpec)) fnDecideBoundsCard

/-- THE TIED CARD OF 'laws.FnDownCancel'. -/
def fnDownCancelCard : Claim7 := { stood := { row := fnDownCancelRow, standIns := [], harness := (true, "978ee88816243b6105f028aef50a1b32ebc72b9514cfc5cc9a9810598ffff139"), looks := true }, kinds := [], alts := [], laidByText := true, laidKinds := [.data, .data, .data, .sentinel, .sentinel], laidTests := true, laidLooks := .later }
def FnDownCancelCardSaid : Prop := Claim7.holds Tryd.pinned (.plain (OpenSpec.ofChange fnDownCancelSpec)) fnDownCancelCard

/-- THE TIED CARD OF 'laws.FnDecideCancel'. -/
def fnDecideCancelCard : Claim7 := { stood := { row := fnDecideCancelRow, standIns := [], harness := (true, "978ee88816243b6105f028aef50a1b32ebc72b9514cfc5cc9a9810598ffff139"), looks := true }, kinds := [], alts := [], laidByText := true, laidKinds := [.data, .data, .data, .sentinel, .sentinel], laidTests := true, laidLooks := .later }
def FnDecideCancelCardSaid : Prop := Claim7.holds Tryd.pinned (.plain (OpenSpec.ofChange fnDecideCancelSpec)) fnDecideCancelCard

/-- THE TIED CARD OF 'laws.FnDecideSettles'. -/
def fnDecideSettlesCard : Claim7 := { stood := { row := fnDecideSettlesRow, standIns := [], harness := (true, "978ee88816243b6105f028aef50a1b32ebc72b9514cfc5cc9a9810598ffff139"), looks := true }, kinds := [], alts := [], laidByText := true, laidKinds := [.data, .data, .data, .sentinel, .sentinel], laidTests := true, laidLooks := .later }
def FnDecideSettlesCardSaid : Prop := Claim7.holds Tryd.pinned (.plain (OpenSpec.ofChange fnDecideSettlesSpec)) fnDecideSettlesCard

/-- THE TIED CARD OF 'laws.FnRollingDown'. -/
def fnRollingDownCard : Claim7 := { stood := { row := fnRollingDownRow, standIns := [], harness := (true, "978ee88816243b6105f028aef50a1b32ebc72b9514cfc5cc9a9810598ffff139"), looks := true }, kinds := [], alts := [], laidByText := true, laidKinds := [.data, .data, .data, .sentinel, .sentinel], laidTests := true, laidLooks := .later }
def FnRollingDownCardSaid : Prop := Claim7.holds Tryd.pinned (.plain (OpenSpec.ofChange fnRollingDownSpec)) fnRollingDownCard

/-- THE SECOND FORM's CARD OF 'laws.FnDecide'. -/
def fnDecideUptoCard : Claim7 := { stood := { row := fnDecideUptoRow, standIns := [], harness := (true, "978ee88816243b6105f028aef50a1b32ebc72b9514cfc5cc9a9810598ffff139"), looks := true }, kinds := [], alts := [], laidByText := true, laidKinds := [.data, .data, .data, .sentinel, .sentinel], laidTests := true, laidLooks := .later }
def FnDecideUptoCardSaid : Prop := Claim7.holds Tryd.pinned (.plain (OpenSpec.upto fnDecideSpec)) fnDecideUptoCard

/-- THE SECOND FORM's CARD OF 'laws.FnDecideBounds'. -/
def fnDecideBoundsUptoCard : Claim7 := { stood := { row := fnDecideBoundsUptoRow, standIns := [], harness := (true, "978ee88816243b6105f028aef50a1b32ebc72b9514cfc5cc9a9810598ffff139"), looks := true }, kinds := [], alts := [], laidByText := true, laidKinds := [.data, .data, .data, .sentinel, .sentinel], laidTests := true, laidLooks := .later }
def FnDecideBoundsUptoCardSaid : Prop := Claim7.holds Tryd.pinned (.plain (OpenSpec.upto fnDecideBoundsSpec)) fnDecideBoundsUptoCard

/-- THE SECOND FORM's CARD OF 'laws.FnDownCancel'. -/
def fnDownCancelUptoCard : Claim7 := { stood := { row := fnDownCancelUptoRow, standIns := [], harness := (true, "978ee88816243b6105f028aef50a1b32ebc72b9514cfc5cc9a9810598ffff139"), looks := true }, kinds := [], alts := [], laidByText := true, laidKinds := [.data, .data, .data, .sentinel, .sentinel], laidTests := true, laidLooks := .later }
def FnDownCancelUptoCardSaid : Prop := Claim7.holds Tryd.pinned (.plain (OpenSpec.upto fnDownCancelSpec)) fnDownCancelUptoCard

/-- THE SECOND FORM's CARD OF 'laws.FnDecideCancel'. -/
def fnDecideCancelUptoCard : Claim7 := { stood := { row := fnDecideCancelUptoRow, standIns := [], harness := (true, "978ee88816243b6105f028aef50a1b32ebc72b9514cfc5cc9a9810598ffff139"), looks := true }, kinds := [], alts := [], laidByText := true, laidKinds := [.data, .data, .data, .sentinel, .sentinel], laidTests := true, laidLooks := .later }
def FnDecideCancelUptoCardSaid : Prop := Claim7.holds Tryd.pinned (.plain (OpenSpec.upto fnDecideCancelSpec)) fnDecideCancelUptoCard

/-- THE SECOND FORM's CARD OF 'laws.FnDecideSettles'. -/
def fnDecideSettlesUptoCard : Claim7 := { stood := { row := fnDecideSettlesUptoRow, standIns := [], harness := (true, "978ee88816243b6105f028aef50a1b32ebc72b9514cfc5cc9a9810598ffff139"), looks := true }, kinds := [], alts := [], laidByText := true, laidKinds := [.data, .data, .data, .sentinel, .sentinel], laidTests := true, laidLooks := .later }
def FnDecideSettlesUptoCardSaid : Prop := Claim7.holds Tryd.pinned (.plain (OpenSpec.upto fnDecideSettlesSpec)) fnDecideSettlesUptoCard

/-- THE SECOND FORM's CARD OF 'laws.FnRollingDown'. -/
def fnRollingDownUptoCard : Claim7 := { stood := { row := fnRollingDownUptoRow, standIns := [], harness := (true, "978ee88816243b6105f028aef50a1b32ebc72b9514cfc5cc9a9810598ffff139"), looks := true }, kinds := [], alts := [], laidByText := true, laidKinds := [.data, .data, .data, .sentinel, .sentinel], laidTests := true, laidLooks := .later }
def FnRollingDownUptoCardSaid : Prop := Claim7.holds Tryd.pinned (.plain (OpenSpec.upto fnRollingDownSpec)) fnRollingDownUptoCard
end Rows
end Go.Proofs.YtdcijhdjddiboaaDoor
