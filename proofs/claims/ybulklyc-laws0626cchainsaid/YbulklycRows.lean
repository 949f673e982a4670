/-
  No cell of these rows narrows 'for every input' (looked for: loops, veiled, ifaces, maps, wideKeys, modest, calm, conditions, laid).
  DERIVED. THE GIVEN ROWS OF THIS SEAT. 1 by the template 'for every input the law returns true; each argument reads behind the call as it read before'; 0 by the template 'total and deterministic' (their statements: YbulklycTotals.lean).
  GIVEN WITH THE SEED: the statements are not yours to turn. If you find one false, say at which input.
  Laid BY PROGRAM, IN A SANDBOX (cutbox-rows.mjs): the forced cells as the released guide's own fill.sh prints them over the translation 1198f4fbd9e7baac… (all of the seat's roots in one cut). By AI agents, Wed Nov 11 2026. No macro, syntax, notation, axiom, sorry.
-/
import Derived.Test.YbulklycChecked
import GoSem.Claim
import GoSem.ClaimJoined
import GoSem.ClaimMapViews
import Derived.JoinedTies
import Derived.KernelRfl
namespace Go.Proofs.Ybulklyc
/- THE CELL 'sum', in the pinned program and in every row, IS THE sha256 OF THE DUMP (.gsa) THAT YbulklycProg.lean LOADS. Nothing in Lean hashes anything: it is a label: what it is worth is what the hold of that sum in a sandbox is worth. -/
noncomputable def Yba.pinned : Pinned := { name := "ybulklyc", sum := "1198f4fbd9e7baac7c984838e05fbc156ff5ca4d868515b9a931422fac2f8f16", checked := Yba.checked }
namespace Rows
def none {H : Type} : Left H := { results := [], args := [] }

/-- 'mooring.LawS0626CChain': WHATEVER THE INPUT: true; the input reads as it did. -/
def lawS0626CChainSpec : ChangeSpec := { name := "lawS0626CChain", fn := fun _ => fun
  | [d1, d2, d3, d4] => { results := [.lit (.bool true)], args := [d1, d2, d3, d4] }
  | _ => none }
def lawS0626CChainRow : OpenClaim := { program := "ybulklyc", sum := "1198f4fbd9e7baac7c984838e05fbc156ff5ca4d868515b9a931422fac2f8f16", func := "example.com/mooring/mooring.LawS0626CChain", spec := "lawS0626CChain", unfollowed := true, recurses := true, apart := false }
def LawS0626CChainSaid : Prop := lawS0626CChainRow.holds Yba.pinned (OpenSpec.ofChange lawS0626CChainSpec)

/-- ITS FALSE NEIGHBOUR: 'it returns false'. Refute it at one input. -/
def lawS0626CChainWrong : ChangeSpec := { name := "lawS0626CChain", fn := fun _ => fun
  | [d1, d2, d3, d4] => { results := [.lit (.bool false)], args := [d1, d2, d3, d4] }
  | _ => none }
def LawS0626CChainWrongFalsely : Prop := lawS0626CChainRow.holds Yba.pinned (OpenSpec.ofChange lawS0626CChainWrong)

end Rows
end Go.Proofs.Ybulklyc
