/-
  DERIVED. GIVEN WITH THE SEED: THE CARDS: each row of YtjknkdmenhcbkaaDoorRows.lean that lists a variable, with what it lists TIED to the program's text (the seventh form; the later family's looks); each row that meets fmt, with fmt's text TOLD by the authors' own Lean function (tested against real Go, not proved from fmt's source: count such statements apart). THE CARD IS WHAT COUNTS. Prove the row's statement (the work); the ties are given (YtjknkdmenhcbkaaDoorTie.lean); close each card by the builder's one call (the guide's Derived/Test/ToyasCard.lean, 'card_holds'). Laid BY PROGRAM, IN A SANDBOX (cutbox-door.mjs). By AI agents, Wed Nov 11 2026. No macro, syntax, notation, axiom, sorry.
-/
import Derived.Test.YtjknkdmenhcbkaaDoorRows
import GoSem.ClaimSeven
namespace Go.Proofs.YtjknkdmenhcbkaaDoor
namespace Rows

/-- THE TIED CARD OF 'laws.FnCPUBack'. -/
def fnCPUBackCard : Claim7 := { stood := { row := fnCPUBackRow, standIns := [], harness := (true, "6e2f3f04d6bcdf5e03a4b03ad5252ba9df7d3c9ccaafa847b51a37a0ba7e7ef6"), looks := true }, kinds := [], alts := [], laidByText := true, laidKinds := [.data, .data, .data, .sentinel, .sentinel, .sentinel], laidTests := true, laidLooks := .later }
def FnCPUBackCardSaid : Prop := Claim7.holds Tryd.pinned (.plain (OpenSpec.ofChange fnCPUBackSpec)) fnCPUBackCard

/-- THE TIED CARD OF 'laws.FnCPUReads'. -/
def fnCPUReadsCard : Claim7 := { stood := { row := fnCPUReadsRow, standIns := [], harness := (true, "6e2f3f04d6bcdf5e03a4b03ad5252ba9df7d3c9ccaafa847b51a37a0ba7e7ef6"), looks := true }, kinds := [], alts := [], laidByText := true, laidKinds := [.data, .data, .data, .sentinel, .sentinel, .sentinel], laidTests := true, laidLooks := .later }
def FnCPUReadsCardSaid : Prop := Claim7.holds Tryd.pinned (.plain (OpenSpec.ofChange fnCPUReadsSpec)) fnCPUReadsCard

/-- THE SECOND FORM's CARD OF 'laws.FnCPUBack'. -/
def fnCPUBackUptoCard : Claim7 := { stood := { row := fnCPUBackUptoRow, standIns := [], harness := (true, "6e2f3f04d6bcdf5e03a4b03ad5252ba9df7d3c9ccaafa847b51a37a0ba7e7ef6"), looks := true }, kinds := [], alts := [], laidByText := true, laidKinds := [.data, .data, .data, .sentinel, .sentinel, .sentinel], laidTests := true, laidLooks := .later }
def FnCPUBackUptoCardSaid : Prop := Claim7.holds Tryd.pinned (.plain (OpenSpec.upto fnCPUBackSpec)) fnCPUBackUptoCard

/-- THE SECOND FORM's CARD OF 'laws.FnCPUReads'. -/
def fnCPUReadsUptoCard : Claim7 := { stood := { row := fnCPUReadsUptoRow, standIns := [], harness := (true, "6e2f3f04d6bcdf5e03a4b03ad5252ba9df7d3c9ccaafa847b51a37a0ba7e7ef6"), looks := true }, kinds := [], alts := [], laidByText := true, laidKinds := [.data, .data, .data, .sentinel, .sentinel, .sentinel], laidTests := true, laidLooks := .later }
def FnCPUReadsUptoCardSaid : Prop := Claim7.holds Tryd.pinned (.plain (OpenSpec.upto fnCPUReadsSpec)) fnCPUReadsUptoCard
end Rows
end Go.Proofs.YtjknkdmenhcbkaaDoor
