/-
  DERIVED. GIVEN WITH THE SEED: THE CARDS: each row of YbulklycDoorRows.lean that lists a variable, with what it lists TIED to the program's text (the seventh form; the later family's looks); each row that meets fmt, with fmt's text TOLD by the authors' own Lean function (tested against real Go, not proved from fmt's source: count such statements apart). THE CARD IS WHAT COUNTS. Prove the row's statement (the work); the ties are given (YbulklycDoorTie.lean); close each card by the builder's one call (the guide's Derived/Test/ToyasCard.lean, 'card_holds'). Laid BY PROGRAM, IN A SANDBOX (cutbox-door.mjs). By AI agents, Wed Nov 11 2026. No macro, syntax, notation, axiom, sorry.
-/
import Derived.Test.YbulklycDoorRows
import GoSem.ClaimSeven
namespace Go.Proofs.YbulklycDoor
namespace Rows

/-- THE TIED CARD OF 'mooring.LawS0626AExact'. -/
def lawS0626AExactCard : Claim7 := { stood := { row := lawS0626AExactRow, standIns := [], harness := (true, "80539bfe7817f41c8ff318c61054350c2f7c94d093e634ffc570f48208952156"), looks := false }, kinds := [], alts := [], laidByText := true, laidKinds := [.data, .data, .data], laidTests := true, laidLooks := .later }
def LawS0626AExactCardSaid : Prop := Claim7.holds Ybad.pinned (.plain (OpenSpec.ofChange lawS0626AExactSpec)) lawS0626AExactCard

/-- THE TIED CARD OF 'mooring.LawS0626AVersions'. -/
def lawS0626AVersionsCard : Claim7 := { stood := { row := lawS0626AVersionsRow, standIns := [], harness := (true, "80539bfe7817f41c8ff318c61054350c2f7c94d093e634ffc570f48208952156"), looks := false }, kinds := [], alts := [], laidByText := true, laidKinds := [.data, .data, .data], laidTests := true, laidLooks := .later }
def LawS0626AVersionsCardSaid : Prop := Claim7.holds Ybad.pinned (.plain (OpenSpec.ofChange lawS0626AVersionsSpec)) lawS0626AVersionsCard
end Rows
end Go.Proofs.YbulklycDoor
