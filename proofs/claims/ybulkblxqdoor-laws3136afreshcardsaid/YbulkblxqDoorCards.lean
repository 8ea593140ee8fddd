/-
  DERIVED. GIVEN WITH THE SEED: THE CARDS: each row of YbulkblxqDoorRows.lean that lists a variable, with what it lists TIED to the program's text (the seventh form; the later family's looks); each row that meets fmt, with fmt's text TOLD by the authors' own Lean function (tested against real Go, not proved from fmt's source: count such statements apart). THE CARD IS WHAT COUNTS. Prove the row's statement (the work); the ties are given (YbulkblxqDoorTie.lean); close each card by the builder's one call (the guide's Derived/Test/ToyasCard.lean, 'card_holds'). Laid BY PROGRAM, IN A SANDBOX (cutbox-door.mjs). By AI agents, Wed Nov 11 2026. No macro, syntax, notation, axiom, sorry.
-/
import Derived.Test.YbulkblxqDoorRows
import GoSem.ClaimSeven
namespace Go.Proofs.YbulkblxqDoor
namespace Rows

/-- THE TIED CARD OF 'segment.LawS3136AFresh'. -/
def lawS3136AFreshCard : Claim7 := { stood := { row := lawS3136AFreshRow, standIns := [], harness := (true, "b8ae479f13998dc77f158284505e8f9d00811954d28b94000db0442fca9a26fb"), looks := false }, kinds := [], alts := [], laidByText := true, laidKinds := [.widerDeep], laidTests := true, laidLooks := .later }
def LawS3136AFreshCardSaid : Prop := Claim7.holds Ybad.pinned (.plain (OpenSpec.ofChange lawS3136AFreshSpec)) lawS3136AFreshCard

/-- THE TIED CARD OF 'segment.LawS3136AKnown'. -/
def lawS3136AKnownCard : Claim7 := { stood := { row := lawS3136AKnownRow, standIns := [], harness := (true, "b8ae479f13998dc77f158284505e8f9d00811954d28b94000db0442fca9a26fb"), looks := false }, kinds := [], alts := [], laidByText := true, laidKinds := [.widerDeep], laidTests := true, laidLooks := .later }
def LawS3136AKnownCardSaid : Prop := Claim7.holds Ybad.pinned (.plain (OpenSpec.ofChange lawS3136AKnownSpec)) lawS3136AKnownCard
end Rows
end Go.Proofs.YbulkblxqDoor
