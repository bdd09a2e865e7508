/-
  DERIVED. GIVEN WITH THE SEED: THE CARDS: each row of YtbklhnpnkinadaaDoorRows.lean that lists a variable, with what it lists TIED to the program's text (the seventh form; the later family's looks); each row that meets fmt, with fmt's text TOLD by the authors' own Lean function (tested against real Go, not proved from fmt's source: count such statements apart). THE CARD IS WHAT COUNTS. Prove the row's statement (the work); the ties are given (YtbklhnpnkinadaaDoorTie.lean); close each card by the builder's one call (the guide's Derived/Test/ToyasCard.lean, 'card_holds'). Laid BY PROGRAM, IN A SANDBOX (cutbox-door.mjs). By AI agents, Wed Nov 11 2026. No macro, syntax, notation, axiom, sorry.
-/
import Derived.Test.YtbklhnpnkinadaaDoorRows
import GoSem.ClaimSeven
namespace Go.Proofs.YtbklhnpnkinadaaDoor
namespace Rows

/-- THE TIED CARD OF 'laws.FnRingStep'. -/
def fnRingStepCard : Claim7 := { stood := { row := fnRingStepRow, standIns := [], harness := (true, "5905c0a58b0f78e5f56f250754152f51b9d4c911d35d7e96b1aa5c4ea2adcae2"), looks := false }, kinds := [], alts := [], laidByText := true, laidKinds := [.sentinel, .sentinel], laidTests := true, laidLooks := .later }
def FnRingStepCardSaid : Prop := Claim7.holds Tryd.pinned (.plain (OpenSpec.ofChange fnRingStepSpec)) fnRingStepCard

/-- THE TIED CARD OF 'laws.FnRingDump'. -/
def fnRingDumpCard : Claim7 := { stood := { row := fnRingDumpRow, standIns := [], harness := (true, "5905c0a58b0f78e5f56f250754152f51b9d4c911d35d7e96b1aa5c4ea2adcae2"), looks := false }, kinds := [], alts := [], laidByText := true, laidKinds := [.sentinel, .sentinel], laidTests := true, laidLooks := .later }
def FnRingDumpCardSaid : Prop := Claim7.holds Tryd.pinned (.plain (OpenSpec.ofChange fnRingDumpSpec)) fnRingDumpCard

/-- THE TIED CARD OF 'laws.FnRingRun'. -/
def fnRingRunCard : Claim7 := { stood := { row := fnRingRunRow, standIns := [], harness := (true, "5905c0a58b0f78e5f56f250754152f51b9d4c911d35d7e96b1aa5c4ea2adcae2"), looks := false }, kinds := [], alts := [], laidByText := true, laidKinds := [.sentinel, .sentinel], laidTests := true, laidLooks := .later }
def FnRingRunCardSaid : Prop := Claim7.holds Tryd.pinned (.plain (OpenSpec.ofChange fnRingRunSpec)) fnRingRunCard

/-- THE TIED CARD OF 'laws.FnSegClear'. -/
def fnSegClearCard : Claim7 := { stood := { row := fnSegClearRow, standIns := [], harness := (true, "5905c0a58b0f78e5f56f250754152f51b9d4c911d35d7e96b1aa5c4ea2adcae2"), looks := false }, kinds := [], alts := [], laidByText := true, laidKinds := [.sentinel, .data, .sentinel, .sentinel, .sentinel, .sentinel], laidTests := true, laidLooks := .later }
def FnSegClearCardSaid : Prop := Claim7.holds Tryd.pinned (.plain (OpenSpec.ofChange fnSegClearSpec)) fnSegClearCard

/-- THE TIED CARD OF 'laws.FnSegClock'. -/
def fnSegClockCard : Claim7 := { stood := { row := fnSegClockRow, standIns := [], harness := (true, "5905c0a58b0f78e5f56f250754152f51b9d4c911d35d7e96b1aa5c4ea2adcae2"), looks := false }, kinds := [], alts := [], laidByText := true, laidKinds := [.sentinel, .data, .sentinel, .sentinel, .sentinel, .sentinel], laidTests := true, laidLooks := .later }
def FnSegClockCardSaid : Prop := Claim7.holds Tryd.pinned (.plain (OpenSpec.ofChange fnSegClockSpec)) fnSegClockCard

/-- THE TIED CARD OF 'laws.FnSegPeeks'. -/
def fnSegPeeksCard : Claim7 := { stood := { row := fnSegPeeksRow, standIns := [], harness := (true, "5905c0a58b0f78e5f56f250754152f51b9d4c911d35d7e96b1aa5c4ea2adcae2"), looks := false }, kinds := [], alts := [], laidByText := true, laidKinds := [.sentinel, .data, .sentinel, .sentinel, .sentinel, .sentinel], laidTests := true, laidLooks := .later }
def FnSegPeeksCardSaid : Prop := Claim7.holds Tryd.pinned (.plain (OpenSpec.ofChange fnSegPeeksSpec)) fnSegPeeksCard

/-- THE SECOND FORM's CARD OF 'laws.FnRingStep'. -/
def fnRingStepUptoCard : Claim7 := { stood := { row := fnRingStepUptoRow, standIns := [], harness := (true, "5905c0a58b0f78e5f56f250754152f51b9d4c911d35d7e96b1aa5c4ea2adcae2"), looks := false }, kinds := [], alts := [], laidByText := true, laidKinds := [.sentinel, .sentinel], laidTests := true, laidLooks := .later }
def FnRingStepUptoCardSaid : Prop := Claim7.holds Tryd.pinned (.plain (OpenSpec.upto fnRingStepSpec)) fnRingStepUptoCard

/-- THE SECOND FORM's CARD OF 'laws.FnRingDump'. -/
def fnRingDumpUptoCard : Claim7 := { stood := { row := fnRingDumpUptoRow, standIns := [], harness := (true, "5905c0a58b0f78e5f56f250754152f51b9d4c911d35d7e96b1aa5c4ea2adcae2"), looks := false }, kinds := [], alts := [], laidByText := true, laidKinds := [.sentinel, .sentinel], laidTests := true, laidLooks := .later }
def FnRingDumpUptoCardSaid : Prop := Claim7.holds Tryd.pinned (.plain (OpenSpec.upto fnRingDumpSpec)) fnRingDumpUptoCard

/-- THE SECOND FORM's CARD OF 'laws.FnRingRun'. -/
def fnRingRunUptoCard : Claim7 := { stood := { row := fnRingRunUptoRow, standIns := [], harness := (true, "5905c0a58b0f78e5f56f250754152f51b9d4c911d35d7e96b1aa5c4ea2adcae2"), looks := false }, kinds := [], alts := [], laidByText := true, laidKinds := [.sentinel, .sentinel], laidTests := true, laidLooks := .later }
def FnRingRunUptoCardSaid : Prop := Claim7.holds Tryd.pinned (.plain (OpenSpec.upto fnRingRunSpec)) fnRingRunUptoCard

/-- THE SECOND FORM's CARD OF 'laws.FnSegClear'. -/
def fnSegClearUptoCard : Claim7 := { stood := { row := fnSegClearUptoRow, standIns := [], harness := (true, "5905c0a58b0f78e5f56f250754152f51b9d4c911d35d7e96b1aa5c4ea2adcae2"), looks := false }, kinds := [], alts := [], laidByText := true, laidKinds := [.sentinel, .data, .sentinel, .sentinel, .sentinel, .sentinel], laidTests := true, laidLooks := .later }
def FnSegClearUptoCardSaid : Prop := Claim7.holds Tryd.pinned (.plain (OpenSpec.upto fnSegClearSpec)) fnSegClearUptoCard

/-- THE SECOND FORM's CARD OF 'laws.FnSegClock'. -/
def fnSegClockUptoCard : Claim7 := { stood := { row := fnSegClockUptoRow, standIns := [], harness := (true, "5905c0a58b0f78e5f56f250754152f51b9d4c911d35d7e96b1aa5c4ea2adcae2"), looks := false }, kinds := [], alts := [], laidByText := true, laidKinds := [.sentinel, .data, .sentinel, .sentinel, .sentinel, .sentinel], laidTests := true, laidLooks := .later }
def FnSegClockUptoCardSaid : Prop := Claim7.holds Tryd.pinned (.plain (OpenSpec.upto fnSegClockSpec)) fnSegClockUptoCard

/-- THE SECOND FORM's CARD OF 'laws.FnSegPeeks'. -/
def fnSegPeeksUptoCard : Claim7 := { stood := { row := fnSegPeeksUptoRow, standIns := [], harness := (true, "5905c0a58b0f78e5f56f250754152f51b9d4c911d35d7e96b1aa5c4ea2adcae2"), looks := false }, kinds := [], alts := [], laidByText := true, laidKinds := [.sentinel, .data, .sentinel, .sentinel, .sentinel, .sentinel], laidTests := true, laidLooks := .later }
def FnSegPeeksUptoCardSaid : Prop := Claim7.holds Tryd.pinned (.plain (OpenSpec.upto fnSegPeeksSpec)) fnSegPeeksUptoCard
end Rows
end Go.Proofs.YtbklhnpnkinadaaDoor
