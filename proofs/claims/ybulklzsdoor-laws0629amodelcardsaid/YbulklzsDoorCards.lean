/-
  DERIVED. GIVEN WITH THE SEED: THE CARDS: each row of YbulklzsDoorRows.lean that lists a variable, with what it lists TIED to the program's text (the seventh form; the later family's looks); each row that meets fmt, with fmt's text TOLD by the authors' own Lean function (tested against real Go, not proved from fmt's source: count such statements apart). THE CARD IS WHAT COUNTS. Prove the row's statement (the work); the ties are given (YbulklzsDoorTie.lean); close each card by the builder's one call (the guide's Derived/Test/ToyasCard.lean, 'card_holds'). Laid BY PROGRAM, IN A SANDBOX (cutbox-door.mjs). By AI agents, Wed Nov 11 2026. No macro, syntax, notation, axiom, sorry.
-/
import Derived.Test.YbulklzsDoorRows
import GoSem.ClaimSeven
namespace Go.Proofs.YbulklzsDoor
namespace Rows

/-- THE TIED CARD OF 'diskstore.LawS0629ARoundTrip'. -/
def lawS0629ARoundTripCard : Claim7 := { stood := { row := lawS0629ARoundTripRow, standIns := [], harness := (true, "8ab99a2c7a06cc32864001839b3c218bd3b0507f992dfb483526f4299aa6d338"), looks := false }, kinds := [], alts := [], laidByText := true, laidKinds := [.called], laidTests := true, laidLooks := .later }
def LawS0629ARoundTripCardSaid : Prop := Claim7.holds Ybad.pinned (.plain (OpenSpec.ofChange lawS0629ARoundTripSpec)) lawS0629ARoundTripCard

/-- THE TIED CARD OF 'diskstore.LawS0629AModel'. -/
def lawS0629AModelCard : Claim7 := { stood := { row := lawS0629AModelRow, standIns := [], harness := (true, "8ab99a2c7a06cc32864001839b3c218bd3b0507f992dfb483526f4299aa6d338"), looks := false }, kinds := [], alts := [], laidByText := true, laidKinds := [.called], laidTests := true, laidLooks := .later }
def LawS0629AModelCardSaid : Prop := Claim7.holds Ybad.pinned (.plain (OpenSpec.ofChange lawS0629AModelSpec)) lawS0629AModelCard
end Rows
end Go.Proofs.YbulklzsDoor
