/-
  DERIVED. GIVEN WITH THE SEED: THE CARDS: each row of YbulklxoFmtRows.lean that lists a variable, with what it lists TIED to the program's text (the seventh form; the later family's looks); each row that meets fmt, with fmt's text TOLD by the authors' own Lean function (tested against real Go, not proved from fmt's source: count such statements apart). THE CARD IS WHAT COUNTS. Prove the row's statement (the work); the ties are given (YbulklxoFmtTie.lean); close each card by the builder's one call (the guide's Derived/Test/ToyasCard.lean, 'card_holds'). Laid BY PROGRAM, IN A SANDBOX (cutbox-door.mjs). By AI agents, Wed Nov 11 2026. No macro, syntax, notation, axiom, sorry.
-/
import Derived.Test.YbulklxoFmtRows
import GoSem.ClaimSeven
namespace Go.Proofs.YbulklxoFmt
namespace Rows

/-- THE TOLD CARD OF 'jsonfmt.LawS0625ANilIffAllGiven'. -/
def lawS0625ANilIffAllGivenCard : Claim7 := { stood := { row := lawS0625ANilIffAllGivenRow, standIns := [], harness := (true, "dc1a1953b052631945647f2c1f417f90c11a5648a552f51cd3c0a4079f61bcdf"), looks := false }, told := true, goes := false }
def LawS0625ANilIffAllGivenToldSaid : Prop := Claim7.holds Ybaf.pinned (.plain (OpenSpec.ofChange lawS0625ANilIffAllGivenSpec)) lawS0625ANilIffAllGivenCard
/-- ITS FALSE NEIGHBOUR. Refute it at one input. -/
def LawS0625ANilIffAllGivenToldWrongFalsely : Prop := Claim7.holds Ybaf.pinned (.plain (OpenSpec.ofChange lawS0625ANilIffAllGivenWrong)) lawS0625ANilIffAllGivenCard

/-- THE TOLD CARD OF 'jsonfmt.LawS0625AAllTrueIsNil'. -/
def lawS0625AAllTrueIsNilCard : Claim7 := { stood := { row := lawS0625AAllTrueIsNilRow, standIns := [], harness := (true, "dc1a1953b052631945647f2c1f417f90c11a5648a552f51cd3c0a4079f61bcdf"), looks := false }, told := true, goes := false }
def LawS0625AAllTrueIsNilToldSaid : Prop := Claim7.holds Ybaf.pinned (.plain (OpenSpec.ofChange lawS0625AAllTrueIsNilSpec)) lawS0625AAllTrueIsNilCard
/-- ITS FALSE NEIGHBOUR. Refute it at one input. -/
def LawS0625AAllTrueIsNilToldWrongFalsely : Prop := Claim7.holds Ybaf.pinned (.plain (OpenSpec.ofChange lawS0625AAllTrueIsNilWrong)) lawS0625AAllTrueIsNilCard
end Rows
end Go.Proofs.YbulklxoFmt
