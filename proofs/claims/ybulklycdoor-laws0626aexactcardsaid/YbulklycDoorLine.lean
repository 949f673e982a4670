/-
  THE CONTRACT of mooring.recycledLine.
-/
import Derived.Test.YbulklycDoorShelf
import Derived.WalkKit
import Derived.WalkSpells
import Derived.WalkLawsBesides
import Derived.Below
import Derived.WalkSmall
import Derived.Lib.ItoaLen
import Derived.Lib.AppendIntMem
namespace Go.Proofs.YbulklycDoor
open Go.RowKit
set_option linter.unusedVariables false

/-- The line: a prefix, the numeral, the word. -/
def line (pre : ByteArray) (n : Int) : ByteArray := pre ++ ⟨(Lib.itoa n).toArray⟩ ++ ⟨#[32, 114, 101, 99, 121, 99, 108, 101, 100]⟩

set_option maxRecDepth 100000 in
theorem line_four (n : Int) (w : World) (h0 : -9223372036854775808 ≤ n) (h1 : n ≤ 9223372036854775807) (htab : Lib.TabIs Ybad.prog w powName .u64 Lib.pow10Tab) :
    Calls Ybad.prog 5 #[.int .i64 4, .int .i64 n] w fun e w' => e = .returned (.string (line ⟨#[35]⟩ n)) ∧ Below w.heap.size w w' := by
  have hl := Lib.itoa_length_le n h0 h1
  obtain ⟨S, hS⟩ : ∃ S : ByteArray, S = ⟨(Lib.itoa n).toArray⟩ := ⟨_, rfl⟩
  have hsz : S.size ≤ 21 := by rw [hS]; simpa [ByteArray.size] using hl
  have HS : Hid (S = ⟨(Lib.itoa n).toArray⟩) := hS
  go_enter Ybad.func5, Ybad.ntmps5
  go_wp2_with fail
  refine (Ybad.strconv_Itoa n h0 h1 w htab).mono ?_
  rintro e w1 ⟨rfl, k, os, rfl⟩
  rw [← hS]
  clear hS htab
  go_wp2_with fail
  go_ret
  exact ⟨by rw [HS.out]; rfl, Lib.below_grow _ _ (Nat.le_refl _) _ _⟩

set_option maxRecDepth 100000 in
theorem line_other (v n : Int) (w : World) (hv : (v == 4) = false) (h0 : -9223372036854775808 ≤ n) (h1 : n ≤ 9223372036854775807) (htab : Lib.TabIs Ybad.prog w powName .u64 Lib.pow10Tab) :
    Calls Ybad.prog 5 #[.int .i64 v, .int .i64 n] w fun e w' => e = .returned (.string (line ⟨#[35, 32]⟩ n)) ∧ Below w.heap.size w w' := by
  have hl := Lib.itoa_length_le n h0 h1
  obtain ⟨S, hS⟩ : ∃ S : ByteArray, S = ⟨(Lib.itoa n).toArray⟩ := ⟨_, rfl⟩
  have hsz : S.size ≤ 21 := by rw [hS]; simpa [ByteArray.size] using hl
  have HS : Hid (S = ⟨(Lib.itoa n).toArray⟩) := hS
  go_enter Ybad.func5, Ybad.ntmps5
  go_wp2_with fail
  refine (Ybad.strconv_Itoa n h0 h1 w htab).mono ?_
  rintro e w1 ⟨rfl, k, os, rfl⟩
  rw [← hS]
  clear hS htab
  go_wp2_with fail
  go_ret
  exact ⟨by rw [HS.out]; rfl, Lib.below_grow _ _ (Nat.le_refl _) _ _⟩
end Go.Proofs.YbulklycDoor
