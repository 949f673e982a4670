/-
  NARROWER THAN 'FOR EVERY INPUT', by the rows' own cells (each row's printed sentence says how): LawS0629ARoundTrip: ifaces, laid · LawS0629AModel: ifaces, laid.
  DERIVED. THE GIVEN ROWS OF THIS SEAT. 2 by the template 'for every input the law returns true; each argument reads behind the call as it read before'; 0 by the template 'total and deterministic' (their statements: YbulklzsDoorTotals.lean).
  GIVEN WITH THE SEED: the statements are not yours to turn. If you find one false, say at which input.
  Laid BY PROGRAM, IN A SANDBOX (cutbox-rows.mjs): the forced cells as the released guide's own fill.sh prints them over the translation 25a57e25d8fda6d7… (all of the seat's roots in one cut). By AI agents, Wed Nov 11 2026. No macro, syntax, notation, axiom, sorry.
-/
import Derived.Test.YbulklzsDoorChecked
import GoSem.Claim
import GoSem.ClaimJoined
import GoSem.ClaimMapViews
import Derived.JoinedTies
import Derived.KernelRfl
namespace Go.Proofs.YbulklzsDoor
/- THE CELL 'sum', in the pinned program and in every row, IS THE sha256 OF THE DUMP (.gsa) THAT YbulklzsDoorProg.lean LOADS. Nothing in Lean hashes anything: it is a label: what it is worth is what the hold of that sum in a sandbox is worth. -/
noncomputable def Ybad.pinned : Pinned := { name := "ybulklzsdoor", sum := "25a57e25d8fda6d7542f7d130834d7e57bab75fec3e960ebc33e027764103628", checked := Ybad.checked }
namespace Rows
def none {H : Type} : Left H := { results := [], args := [] }

/- WHAT THE LISTED PACKAGE-LEVEL VARIABLES READ AS WHEN THE CALL BEGINS. Each datum BY PROGRAM (the guide's laid-datum.mjs) off the statement by which the dump's own 'gosem.cut.vars' lays the variable. In a bare row this is a premise. The card (YbulklzsDoorCards.lean) ties it to the program's text. -/
def laid_example_com_freshet_freshet_diskstore_errDamaged {H : Type} : DataW H := .iface "*errors.errorString" (.ptr (.agg [.lit (.string [110, 111, 116, 32, 97, 110, 32, 101, 110, 116, 114, 121, 32, 102, 105, 108, 101, 44, 32, 111, 114, 32, 97, 32, 100, 97, 109, 97, 103, 101, 100, 32, 111, 110, 101])]))

/-- 'diskstore.LawS0629ARoundTrip': WHATEVER THE INPUT: true; the input reads as it did. -/
def lawS0629ARoundTripSpec : ChangeSpec := { name := "lawS0629ARoundTrip", vars := ["example.com/freshet/freshet/diskstore.errDamaged"], fn := fun _ => fun
  | [d1, d2, d3, g1] => { results := [.lit (.bool true)], args := [d1, d2, d3], vars := [g1] }
  | _ => none }
def lawS0629ARoundTripRow : OpenClaim := { program := "ybulklzsdoor", sum := "25a57e25d8fda6d7542f7d130834d7e57bab75fec3e960ebc33e027764103628", func := "example.com/freshet/freshet/diskstore.LawS0629ARoundTrip", spec := "lawS0629ARoundTrip", named := ["example.com/freshet/freshet/diskstore.errDamaged"], ifaces := true, apart := false, laid := [("example.com/freshet/freshet/diskstore.errDamaged", laid_example_com_freshet_freshet_diskstore_errDamaged)] }
def LawS0629ARoundTripSaid : Prop := lawS0629ARoundTripRow.holds Ybad.pinned (OpenSpec.ofChange lawS0629ARoundTripSpec)

/-- ITS FALSE NEIGHBOUR: 'it returns false'. Refute it at one input. -/
def lawS0629ARoundTripWrong : ChangeSpec := { name := "lawS0629ARoundTrip", vars := ["example.com/freshet/freshet/diskstore.errDamaged"], fn := fun _ => fun
  | [d1, d2, d3, g1] => { results := [.lit (.bool false)], args := [d1, d2, d3], vars := [g1] }
  | _ => none }
def LawS0629ARoundTripWrongFalsely : Prop := lawS0629ARoundTripRow.holds Ybad.pinned (OpenSpec.ofChange lawS0629ARoundTripWrong)

/-- 'diskstore.LawS0629AModel': WHATEVER THE INPUT: true; the input reads as it did. -/
def lawS0629AModelSpec : ChangeSpec := { name := "lawS0629AModel", vars := ["example.com/freshet/freshet/diskstore.errDamaged"], fn := fun _ => fun
  | [d, g1] => { results := [.lit (.bool true)], args := [d], vars := [g1] }
  | _ => none }
def lawS0629AModelRow : OpenClaim := { program := "ybulklzsdoor", sum := "25a57e25d8fda6d7542f7d130834d7e57bab75fec3e960ebc33e027764103628", func := "example.com/freshet/freshet/diskstore.LawS0629AModel", spec := "lawS0629AModel", named := ["example.com/freshet/freshet/diskstore.errDamaged"], ifaces := true, apart := false, laid := [("example.com/freshet/freshet/diskstore.errDamaged", laid_example_com_freshet_freshet_diskstore_errDamaged)] }
def LawS0629AModelSaid : Prop := lawS0629AModelRow.holds Ybad.pinned (OpenSpec.ofChange lawS0629AModelSpec)

/-- ITS FALSE NEIGHBOUR: 'it returns false'. Refute it at one input. -/
def lawS0629AModelWrong : ChangeSpec := { name := "lawS0629AModel", vars := ["example.com/freshet/freshet/diskstore.errDamaged"], fn := fun _ => fun
  | [d, g1] => { results := [.lit (.bool false)], args := [d], vars := [g1] }
  | _ => none }
def LawS0629AModelWrongFalsely : Prop := lawS0629AModelRow.holds Ybad.pinned (OpenSpec.ofChange lawS0629AModelWrong)

end Rows
end Go.Proofs.YbulklzsDoor
