/-
  WHAT THE ROWS' LISTED VARIABLE GIVES: the sentinel error; that the door's own heap meets the list; how the arguments are opened.
-/
import Derived.Test.YbulklzsDoorLib
import Derived.ProofKit
import Derived.LaidMore
import Derived.OpenShut
import Derived.ShutString
import Derived.Stop.Joined
import Derived.Stop.LaidErr
namespace Go.Proofs.YbulklzsDoor
open Go.ChangeShapes Go.WideShapes Go.ChangeAt Go.RowKit Go.Stop
set_option linter.unusedVariables false

theorem own : ownKnob Ybad.prog.godebug = none := by kernel_rfl
theorem laidOut : laidOutB Ybad.prog = true := by kernel_rfl

/-- The listed variable (one list for both rows). -/
def laid1 : List (String × DataW Unit) := Rows.lawS0629ARoundTripRow.laid
/-- The variable's name, out of the row. -/
def errName : String := Rows.lawS0629ARoundTripRow.named.headD ""

theorem door_met (os : Os) (args : Array Value) : laidMetH Ybad.prog laid1 ((World.doorLaid Ybad.prog 400 os).forCall (fun _ _ => 0) ⟨#[], args, []⟩).memory :=
  laidMetH_of_parts3 (fuel := 8) (laidMet_of_run' 8 (by kernel_rfl) (by kernel_rfl)) (by kernel_rfl) (by kernel_rfl)

theorem gErr : Ybad.prog.globalNamed errName = some 0 := by kernel_rfl
theorem tErr : (Ybad.prog.globals[0]?).map (·.type) = some 26 := by kernel_rfl
theorem cells62 : Ybad.prog.cellsOf 62 = 1 := by kernel_rfl
theorem cells9 : Ybad.prog.cellsOf 9 = 1 := by kernel_rfl
theorem star : "*" ++ "errors.errorString" = "*errors.errorString" := by decide
theorem row44 (u : TypeId) (h : Ybad.prog.typeName? 3 u = some "*errors.errorString") : u = 44 :=
  typeName_ptr_named (nm := "errors.errorString") (by rw [star]; kernel_rfl) (by kernel_rfl) (by decide) u (by rw [star]; exact h)

theorem err_of_laid {W : World} (h : laidMetH Ybad.prog laid1 W) : ∃ a : Addr, W.var? Ybad.prog errName = some #[.iface 44 (.pointer (some a))] := by
  rw [MakeChecks.laidMetH_plain _ _ _ (by kernel_rfl)] at h
  have h1 : laidMet Ybad.prog ((errName, Rows.laid_example_com_freshet_freshet_diskstore_errDamaged) :: []) W := h
  obtain ⟨a1, s1, hv1, _⟩ := laid_sentinel h1 gErr tErr Ybad.underlying26 row44 Ybad.underlying44 Ybad.underlying62 rfl rfl Ybad.underlying9 cells62 cells9
  exact ⟨a1, hv1⟩

theorem spot_none {w : World} {x : Addr} {v : Value} (h : w.cell? (x.add 0) = some v) : x.spot = none := by
  unfold Addr.add World.cell? at h
  simp at h
  split at h
  · split at h
    · simp at h
    · rename_i h'; cases hs : x.spot <;> simp_all
  · simp at h
theorem add_none (b off j : Nat) : (⟨b, off, none⟩ : Addr).add j = ⟨b, off + j, none⟩ := by unfold Addr.add; split <;> simp_all

/-- A slice of bytes that came in, opened. -/
theorem bytes_in {H : Type} {enc : TypeId × Value → H} {W : World} {a : Option Addr} {len cap : Nat} {d : DataW H} {p : List MemPlace}
    (h : DataW.Trod enc Ybad.prog W 0 (fun _ => true) true 22 (.slice a len cap) d p) : ∃ l : List UInt8, CellB W a len l ∧ (a = none → cap = 0) ∧ len ≤ cap ∧ cap ≤ 9223372036854775807 := by
  obtain ⟨fuel, hf⟩ := h
  rcases open_ints Ybad.underlying22 Ybad.underlying5 (by kernel_rfl) hf with ⟨hcs, _⟩ | ⟨x, l, c, zs, hcs, _, hl, hm, hz, _, hcell, hwz⟩
  · simp [Value.cells] at hcs
    obtain ⟨rfl, rfl, rfl⟩ := hcs
    exact ⟨[], ⟨rfl, fun j b hj => by simp at hj⟩, fun _ => rfl, Nat.le_refl _, by omega⟩
  · simp [Value.cells] at hcs
    obtain ⟨rfl, rfl, rfl⟩ := hcs
    simp only [if_true] at hz
    refine ⟨(zs.take len).map fun z => UInt8.ofNat z.toNat, ⟨by simp; omega, ?_⟩, (fun h => by cases h), hl, by unfold maxLen at hm; omega⟩
    intro j b hj
    have hjl : j < len := by
      have := (List.getElem?_eq_some_iff.1 hj).1
      simp at this; omega
    have hjz : j < zs.length := by omega
    have h0 := hcell 0 (by omega)
    have hj' := hcell j (by omega)
    obtain ⟨g, off, sp⟩ := x
    have hsp : sp = none := spot_none h0
    subst hsp
    rw [add_none] at hj'
    refine ⟨g, off, rfl, ?_⟩
    rw [hj']
    have hw := hwz (zs.getD j 0) (by simp only [List.getD, List.getElem?_eq_getElem hjz, Option.getD_some]; exact List.getElem_mem hjz)
    have hb := bounds_u8 hw
    rw [List.getElem?_map, List.getElem?_take_of_lt hjl, List.getElem?_eq_getElem hjz] at hj
    simp only [Option.map_some, Option.some.injEq] at hj
    simp only [List.getD, List.getElem?_eq_getElem hjz, Option.getD_some] at hb ⊢
    rw [← hj]
    congr 2
    rw [UInt8.toNat_ofNat_of_lt' (by simp [UInt8.size]; omega)]
    omega
end Go.Proofs.YbulklzsDoor
