/-
  No cell of these rows narrows 'for every input' (looked for: loops, veiled, ifaces, maps, wideKeys, modest, calm, conditions, laid).
  DERIVED. THE GIVEN ROWS OF THIS SEAT. 2 by the template 'for every input the law returns true; each argument reads behind the call as it read before'; 0 by the template 'total and deterministic' (their statements: YbulklxoFmtTotals.lean).
  GIVEN WITH THE SEED: the statements are not yours to turn. If you find one false, say at which input.
  Laid BY PROGRAM, IN A SANDBOX (cutbox-rows.mjs): the forced cells as the released guide's own fill.sh prints them over the translation 7959a3e8818ce7ab… (all of the seat's roots in one cut). By AI agents, Wed Nov 11 2026. No macro, syntax, notation, axiom, sorry.
-/
import Derived.Test.YbulklxoFmtChecked
import GoSem.Claim
import GoSem.ClaimJoined
import GoSem.ClaimMapViews
import Derived.JoinedTies
import Derived.KernelRfl
namespace Go.Proofs.YbulklxoFmt
/- THE CELL 'sum', in the pinned program and in every row, IS THE sha256 OF THE DUMP (.gsa) THAT YbulklxoFmtProg.lean LOADS. Nothing in Lean hashes anything: it is a label: what it is worth is what the hold of that sum in a sandbox is worth. -/
noncomputable def Ybaf.pinned : Pinned := { name := "ybulklxofmt", sum := "7959a3e8818ce7abfa974e9541fc73969c0328f837d8bc3ba630060d0f833956", checked := Ybaf.checked }
namespace Rows
def none {H : Type} : Left H := { results := [], args := [] }

/-- 'jsonfmt.LawS0625ANilIffAllGiven': WHATEVER THE INPUT: true; the input reads as it did. -/
def lawS0625ANilIffAllGivenSpec : ChangeSpec := { name := "lawS0625ANilIffAllGiven", fn := fun _ => fun
  | [d1, d2] => { results := [.lit (.bool true)], args := [d1, d2] }
  | _ => none }
def lawS0625ANilIffAllGivenRow : OpenClaim := { program := "ybulklxofmt", sum := "7959a3e8818ce7abfa974e9541fc73969c0328f837d8bc3ba630060d0f833956", func := "example.com/ebbtide/ebbtide/internal/jsonfmt.LawS0625ANilIffAllGiven", spec := "lawS0625ANilIffAllGiven", stops := ["fmt.errorf"], inPlace := ["fmt.errorf"], apart := false }
/-- NO THEOREM (fmt's text is open here; it may be false): for the released tool's asking of the row's closed facts alone. THE STATEMENT IS 'LawS0625ANilIffAllGivenToldSaid' (YbulklxoFmtCards.lean). -/
def LawS0625ANilIffAllGivenFormAsk : Prop := lawS0625ANilIffAllGivenRow.holds Ybaf.pinned (OpenSpec.ofChange lawS0625ANilIffAllGivenSpec)

/-- ITS FALSE NEIGHBOUR: 'it returns false'. Refute it at one input. -/
def lawS0625ANilIffAllGivenWrong : ChangeSpec := { name := "lawS0625ANilIffAllGiven", fn := fun _ => fun
  | [d1, d2] => { results := [.lit (.bool false)], args := [d1, d2] }
  | _ => none }
def LawS0625ANilIffAllGivenWrongFormAsk : Prop := lawS0625ANilIffAllGivenRow.holds Ybaf.pinned (OpenSpec.ofChange lawS0625ANilIffAllGivenWrong)

/-- 'jsonfmt.LawS0625AAllTrueIsNil': WHATEVER THE INPUT: true; the input reads as it did. -/
def lawS0625AAllTrueIsNilSpec : ChangeSpec := { name := "lawS0625AAllTrueIsNil", fn := fun _ => fun
  | [d] => { results := [.lit (.bool true)], args := [d] }
  | _ => none }
def lawS0625AAllTrueIsNilRow : OpenClaim := { program := "ybulklxofmt", sum := "7959a3e8818ce7abfa974e9541fc73969c0328f837d8bc3ba630060d0f833956", func := "example.com/ebbtide/ebbtide/internal/jsonfmt.LawS0625AAllTrueIsNil", spec := "lawS0625AAllTrueIsNil", stops := ["fmt.errorf"], inPlace := ["fmt.errorf"], apart := false }
/-- NO THEOREM (fmt's text is open here; it may be false): for the released tool's asking of the row's closed facts alone. THE STATEMENT IS 'LawS0625AAllTrueIsNilToldSaid' (YbulklxoFmtCards.lean). -/
def LawS0625AAllTrueIsNilFormAsk : Prop := lawS0625AAllTrueIsNilRow.holds Ybaf.pinned (OpenSpec.ofChange lawS0625AAllTrueIsNilSpec)

/-- ITS FALSE NEIGHBOUR: 'it returns false'. Refute it at one input. -/
def lawS0625AAllTrueIsNilWrong : ChangeSpec := { name := "lawS0625AAllTrueIsNil", fn := fun _ => fun
  | [d] => { results := [.lit (.bool false)], args := [d] }
  | _ => none }
def LawS0625AAllTrueIsNilWrongFormAsk : Prop := lawS0625AAllTrueIsNilRow.holds Ybaf.pinned (OpenSpec.ofChange lawS0625AAllTrueIsNilWrong)

end Rows
end Go.Proofs.YbulklxoFmt
