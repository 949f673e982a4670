/-
  No cell of these rows narrows 'for every input' (looked for: loops, veiled, ifaces, maps, wideKeys, modest, calm, conditions, laid).
  DERIVED. THE GIVEN ROWS OF THIS SEAT. 1 by the template 'for every input the law returns true; each argument reads behind the call as it read before'; 0 by the template 'total and deterministic' (their statements: YbulklxoTotals.lean).
  GIVEN WITH THE SEED: the statements are not yours to turn. If you find one false, say at which input.
  Laid BY PROGRAM, IN A SANDBOX (cutbox-rows.mjs): the forced cells as the released guide's own fill.sh prints them over the translation ca663549ca8624a3… (all of the seat's roots in one cut). By AI agents, Wed Nov 11 2026. No macro, syntax, notation, axiom, sorry.
-/
import Derived.Test.YbulklxoChecked
import GoSem.Claim
import GoSem.ClaimJoined
import GoSem.ClaimMapViews
import Derived.JoinedTies
import Derived.KernelRfl
namespace Go.Proofs.Ybulklxo
/- THE CELL 'sum', in the pinned program and in every row, IS THE sha256 OF THE DUMP (.gsa) THAT YbulklxoProg.lean LOADS. Nothing in Lean hashes anything: it is a label: what it is worth is what the hold of that sum in a sandbox is worth. -/
noncomputable def Yba.pinned : Pinned := { name := "ybulklxo", sum := "ca663549ca8624a31aba6e3bfe3e24a7b70fe3985e8909c9541b3d138914a9de", checked := Yba.checked }
namespace Rows
def none {H : Type} : Left H := { results := [], args := [] }

/-- 'server.LawS0625BCallsOnce': WHATEVER THE INPUT: true; the input reads as it did. -/
def lawS0625BCallsOnceSpec : ChangeSpec := { name := "lawS0625BCallsOnce", fn := fun _ => fun
  | [d1, d2, d3, d4] => { results := [.lit (.bool true)], args := [d1, d2, d3, d4] }
  | _ => none }
def lawS0625BCallsOnceRow : OpenClaim := { program := "ybulklxo", sum := "ca663549ca8624a31aba6e3bfe3e24a7b70fe3985e8909c9541b3d138914a9de", func := "example.com/ebbtide/ebbtide/internal/server.LawS0625BCallsOnce", spec := "lawS0625BCallsOnce", unfollowed := true, recurses := true, apart := false }
def LawS0625BCallsOnceSaid : Prop := lawS0625BCallsOnceRow.holds Yba.pinned (OpenSpec.ofChange lawS0625BCallsOnceSpec)

/-- ITS FALSE NEIGHBOUR: 'it returns false'. Refute it at one input. -/
def lawS0625BCallsOnceWrong : ChangeSpec := { name := "lawS0625BCallsOnce", fn := fun _ => fun
  | [d1, d2, d3, d4] => { results := [.lit (.bool false)], args := [d1, d2, d3, d4] }
  | _ => none }
def LawS0625BCallsOnceWrongFalsely : Prop := lawS0625BCallsOnceRow.holds Yba.pinned (OpenSpec.ofChange lawS0625BCallsOnceWrong)

end Rows
end Go.Proofs.Ybulklxo
