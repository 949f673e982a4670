/-
  BYTES IN MEMORY; the contract of bytes.Equal; a reader's slice cut.
-/
import Derived.Test.YbulklzsDoorRows
import Derived.Test.YbulklzsDoorShelf
import Derived.WalkKit
import Derived.WalkSpells
import Derived.WalkLawsBesides
import Derived.Below
import Derived.WalkSmall
import Derived.Laws.BytesArg
import Derived.Laws.BytesString
import Derived.Lib.VarintDec
namespace Go.Proofs.YbulklzsDoor
open Go.RowKit
set_option linter.unusedVariables false

/-- The slice (a, n) reads as the bytes l in the world w. -/
def CellB (w : World) (a : Option Addr) (n : Nat) (l : List UInt8) : Prop :=
  l.length = n ∧ ∀ j b, l[j]? = some b → ∃ g o, a = some ⟨g, o, none⟩ ∧ w.cell? ⟨g, o + j, none⟩ = some (.int .u8 (b.toNat : Int))

theorem CellB.kept {w w' : World} {a : Option Addr} {n : Nat} {l : List UInt8} (h : CellB w a n l) (hb : ∀ ad : Addr, a = some ad → 0 < n → w'.heap[ad.block]? = w.heap[ad.block]?) : CellB w' a n l := by
  refine ⟨h.1, fun j b hj => ?_⟩
  obtain ⟨g, o, h1, h2⟩ := h.2 j b hj
  have hn : 0 < n := by have := (List.getElem?_eq_some_iff.1 hj).1; have := h.1; omega
  have hg := hb ⟨g, o, none⟩ h1 hn
  exact ⟨g, o, h1, (World.cell?_of_block (a := ⟨g, o + j, none⟩) hg).trans h2⟩

theorem CellB.at {w : World} {a : Option Addr} {n : Nat} {l : List UInt8} (h : CellB w a n l) (hn : 0 < n) : ∃ g o, a = some ⟨g, o, none⟩ ∧ ∀ j (hj : j < l.length), w.cell? ⟨g, o + j, none⟩ = some (.int .u8 ((l[j]).toNat : Int)) := by
  obtain ⟨g, o, h1, _⟩ := h.2 0 (l[0]'(by rw [h.1]; exact hn)) (List.getElem?_eq_getElem _)
  refine ⟨g, o, h1, fun j hj => ?_⟩
  obtain ⟨g', o', h3, h4⟩ := h.2 j l[j] (List.getElem?_eq_getElem hj)
  rw [h1] at h3
  simp at h3
  obtain ⟨rfl, rfl⟩ := h3
  exact h4

theorem str_nums (l : List UInt8) : strOfNums (l.map fun b => (b.toNat : Int)) = ⟨l.toArray⟩ := by
  unfold strOfNums
  congr 1
  congr 1
  rw [List.map_map]
  have : ((fun n : Int => UInt8.ofNat n.toNat) ∘ fun b : UInt8 => (b.toNat : Int)) = id := by funext b; simp
  rw [this, List.map_id]

theorem load_none (x : Addr) (w : World) : (loadCells x 0).run Ybad.prog w = .ok #[] w := by kernel_rfl

/-- 'string(b)'. -/
theorem conv_bytes {w : World} {a : Option Addr} {n : Nat} {l : List UInt8} (h : CellB w a n l) (c : Nat) : (convert 22 9 (.slice a n c)).run Ybad.prog w = .ok (.string ⟨l.toArray⟩) w := by
  by_cases hn : 0 < n
  · obtain ⟨g, o, rfl, hc⟩ := h.at hn
    have h1 := run_convert_bytes_arg (P := Ybad.prog) w 22 5 Ybad.underlying22 Ybad.underlying5 g o n c (l.map fun b => (b.toNat : Int)) (by simpa using h.1) (fun i hi => by
      have hil : i < l.length := by rw [h.1]; exact hi
      rw [hc i hil]; simp [hil]) 9 Ybad.underlying9
    rw [h1, str_nums]
  · obtain rfl : n = 0 := by omega
    obtain rfl : l = [] := List.eq_nil_of_length_eq_zero h.1
    cases a with
    | none => exact run_convert_bytes_nil (P := Ybad.prog) w 22 5 Ybad.underlying22 Ybad.underlying5 0 c 9 Ybad.underlying9
    | some x =>
      rw [run_convert_bytes_string w 22 9 5 (some x) 0 c Ybad.underlying22 Ybad.underlying5 Ybad.underlying9, run_bytesToString w x 0 c [] (load_none x w)]
      rfl

set_option maxRecDepth 100000 in
theorem equal_any (a1 a2 : Option Addr) (n1 c1 n2 c2 : Nat) (l1 l2 : List UInt8) (w : World) (h1 : CellB w a1 n1 l1) (h2 : CellB w a2 n2 l2) :
    Calls Ybad.prog 7 #[.slice a1 n1 c1, .slice a2 n2 c2] w fun e w' => e = .returned (.bool (l1 == l2)) ∧ w' = w := by
  have k1 := conv_bytes h1 c1
  have k2 := conv_bytes h2 c2
  obtain ⟨S1, e1⟩ : ∃ S : ByteArray, S = ⟨l1.toArray⟩ := ⟨_, rfl⟩
  obtain ⟨S2, e2⟩ : ∃ S : ByteArray, S = ⟨l2.toArray⟩ := ⟨_, rfl⟩
  rw [← e1] at k1
  rw [← e2] at k2
  have HE : Hid ((S1.toList == S2.toList) = (l1 == l2)) := by unfold Hid; rw [e1, e2, ByteArray.toList_mk, ByteArray.toList_mk]
  clear h1 h2 e1 e2
  go_enter Ybad.func7, Ybad.ntmps7
  go_wp2
  go_ret
  exact ⟨by rw [← HE.out]; rfl, rfl⟩
end Go.Proofs.YbulklzsDoor
