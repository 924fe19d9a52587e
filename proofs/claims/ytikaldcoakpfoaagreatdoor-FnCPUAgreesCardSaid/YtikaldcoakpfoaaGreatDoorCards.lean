/-
  DERIVED. GIVEN WITH THE SEED: THE CARDS: each row of YtikaldcoakpfoaaGreatDoorRows.lean that lists a variable, with what it lists TIED to the program's text (the seventh form; the later family's looks); each row that meets fmt, with fmt's text TOLD by the authors' own Lean function (tested against real Go, not proved from fmt's source: count such statements apart). THE CARD IS WHAT COUNTS. Prove the row's statement (the work); the ties are given (YtikaldcoakpfoaaGreatDoorTie.lean); close each card by the builder's one call (the guide's Derived/Test/ToyasCard.lean, 'card_holds'). Laid BY PROGRAM, IN A SANDBOX (cutbox-door.mjs). By AI agents, Wed Nov 11 2026. No macro, syntax, notation, axiom, sorry.
-/
import Derived.Test.YtikaldcoakpfoaaGreatDoorRows
import GoSem.ClaimSeven
namespace Go.Proofs.YtikaldcoakpfoaaGreatDoor
namespace Rows

/-- THE TIED CARD OF 'laws.FnSets'. -/
def fnSetsCard : Claim7 := { stood := { row := fnSetsRow, standIns := [], harness := (true, "241082a76f4b3fb3edbecbc1305dbeb0634ccedf75bf4ca2a5fc441808adab68"), looks := true }, kinds := [], alts := [], laidByText := true, laidKinds := [.data, .data, .data, .sentinel, .sentinel, .sentinel], laidTests := true, laidLooks := .later }
def FnSetsCardSaid : Prop := Claim7.holds Tryz.pinned (.plain (OpenSpec.ofChange fnSetsSpec)) fnSetsCard

/-- THE TIED CARD OF 'laws.FnCPUAgrees'. -/
def fnCPUAgreesCard : Claim7 := { stood := { row := fnCPUAgreesRow, standIns := [], harness := (true, "241082a76f4b3fb3edbecbc1305dbeb0634ccedf75bf4ca2a5fc441808adab68"), looks := true }, kinds := [], alts := [], laidByText := true, laidKinds := [.data, .data, .data, .sentinel, .sentinel, .sentinel], laidTests := true, laidLooks := .later }
def FnCPUAgreesCardSaid : Prop := Claim7.holds Tryz.pinned (.plain (OpenSpec.ofChange fnCPUAgreesSpec)) fnCPUAgreesCard

/-- THE SECOND FORM's CARD OF 'laws.FnSets'. -/
def fnSetsUptoCard : Claim7 := { stood := { row := fnSetsUptoRow, standIns := [], harness := (true, "241082a76f4b3fb3edbecbc1305dbeb0634ccedf75bf4ca2a5fc441808adab68"), looks := true }, kinds := [], alts := [], laidByText := true, laidKinds := [.data, .data, .data, .sentinel, .sentinel, .sentinel], laidTests := true, laidLooks := .later }
def FnSetsUptoCardSaid : Prop := Claim7.holds Tryz.pinned (.plain (OpenSpec.upto fnSetsSpec)) fnSetsUptoCard

/-- THE SECOND FORM's CARD OF 'laws.FnCPUAgrees'. -/
def fnCPUAgreesUptoCard : Claim7 := { stood := { row := fnCPUAgreesUptoRow, standIns := [], harness := (true, "241082a76f4b3fb3edbecbc1305dbeb0634ccedf75bf4ca2a5fc441808adab68"), looks := true }, kinds := [], alts := [], laidByText := true, laidKinds := [.data, .data, .data, .sentinel, .sentinel, .sentinel], laidTests := true, laidLooks := .later }
def FnCPUAgreesUptoCardSaid : Prop := Claim7.holds Tryz.pinned (.plain (OpenSpec.upto fnCPUAgreesSpec)) fnCPUAgreesUptoCard
end Rows
end Go.Proofs.YtikaldcoakpfoaaGreatDoor
