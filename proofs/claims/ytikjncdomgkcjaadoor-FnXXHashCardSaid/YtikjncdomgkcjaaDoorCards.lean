/-
  DERIVED. GIVEN WITH THE SEED: THE CARDS: each row of YtikjncdomgkcjaaDoorRows.lean that lists a variable, with what it lists TIED to the program's text (the seventh form; the later family's looks); each row that meets fmt, with fmt's text TOLD by the authors' own Lean function (tested against real Go, not proved from fmt's source: count such statements apart). THE CARD IS WHAT COUNTS. Prove the row's statement (the work); the ties are given (YtikjncdomgkcjaaDoorTie.lean); close each card by the builder's one call (the guide's Derived/Test/ToyasCard.lean, 'card_holds'). Laid BY PROGRAM, IN A SANDBOX (cutbox-door.mjs). By AI agents, Wed Nov 11 2026. No macro, syntax, notation, axiom, sorry.
-/
import Derived.Test.YtikjncdomgkcjaaDoorRows
import GoSem.ClaimSeven
namespace Go.Proofs.YtikjncdomgkcjaaDoor
namespace Rows

/-- THE TIED CARD OF 'laws.FnXXHash'. -/
def fnXXHashCard : Claim7 := { stood := { row := fnXXHashRow, standIns := [], harness := (true, "827fcd0b72b87aac385476d0a364a76a2866fe1746215d6ecfd15479bcc63b28"), looks := false }, kinds := [], alts := [], laidByText := true, laidKinds := [.data], laidTests := true, laidLooks := .later }
def FnXXHashCardSaid : Prop := Claim7.holds Tryd.pinned (.plain (OpenSpec.ofChange fnXXHashSpec)) fnXXHashCard

/-- THE SECOND FORM's CARD OF 'laws.FnXXHash'. -/
def fnXXHashUptoCard : Claim7 := { stood := { row := fnXXHashUptoRow, standIns := [], harness := (true, "827fcd0b72b87aac385476d0a364a76a2866fe1746215d6ecfd15479bcc63b28"), looks := false }, kinds := [], alts := [], laidByText := true, laidKinds := [.data], laidTests := true, laidLooks := .later }
def FnXXHashUptoCardSaid : Prop := Claim7.holds Tryd.pinned (.plain (OpenSpec.upto fnXXHashSpec)) fnXXHashUptoCard
end Rows
end Go.Proofs.YtikjncdomgkcjaaDoor
