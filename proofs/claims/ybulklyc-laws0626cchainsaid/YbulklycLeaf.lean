import Derived.Test.YbulklycRows
import Derived.Test.YbulklycPlain
import Derived.WalkKit
import Derived.WalkSpells
import Derived.WalkLawsBesides
import Derived.Below
import Derived.WalkSmall
import Derived.Deep.OwnRows
import Derived.Laws.EntriesVeiled
import Derived.Deep.QuietTactic
import Derived.BigQuiet
import Derived.Lib.SlBytesConst
namespace Go.Proofs.Ybulklyc
open Go.RowKit Chain
set_option linter.unusedVariables false

/-- What is known of a slice of bytes that came in. -/
def U8s (w : World) (B : Nat) (a : Option Addr) (len : Nat) (zs : List Int) : Prop :=
  ∀ j, j < len → ∃ b off, a = some ⟨b, off, none⟩ ∧ b < B ∧ w.cell? ⟨b, off + j, none⟩ = some (.int .u8 (zs.getD j 0)) ∧ 0 ≤ zs.getD j 0 ∧ zs.getD j 0 ≤ 255

theorem U8s.below {w w' : World} {B : Nat} {a : Option Addr} {len : Nat} {zs : List Int} (h : U8s w B a len zs) (hb : ∀ k, k < B → w'.heap[k]? = w.heap[k]?) : U8s w' B a len zs := by
  intro j hj
  obtain ⟨b, off, h1, h2, h3, h4⟩ := h j hj
  exact ⟨b, off, h1, h2, (World.cell?_of_block (hb b h2)).trans h3, h4⟩

theorem ret_int {k : IntKind} {a b : Int} (h : a = b) : Ending.returned (.int k a) = .returned (.int k b) := by rw [h]

set_option maxRecDepth 100000 in
theorem step_any (a : Option Addr) (len cap : Nat) (zs : List Int) (k : Nat) (w : World) (B : Nat) (hl : len = zs.length) (hk : k ≤ 100000) (hu : U8s w B a len zs) :
    Calls Yba.prog 4 #[.slice a len cap, .int .i64 k] w fun e w' => e = .returned (.int .i64 (stepZ zs k)) ∧ w' = w := by
  have hk0 : (0 : Int) ≤ (k : Int) := by omega
  have hg := getD_mod zs k
  by_cases hlt : k < len
  · obtain ⟨b, off, rfl, h2, h3, h4, h5⟩ := hu k hlt
    have hlt' : (k : Int) < (len : Int) := by omega
    obtain ⟨z, hz⟩ : ∃ z, z = zs.getD k 0 := ⟨_, rfl⟩
    have HS : Hid (stepZ zs k = if (k : Int) - 1 - z % 3 < 0 then -1 else (k : Int) - 1 - z % 3) := by unfold Hid stepZ; rw [hz]; rfl
    rw [← hz] at h3 h4 h5 hg
    clear hz hu
    have HL : Hid (len = zs.length) := hl
    clear hl
    go_enter Yba.func4, Yba.ntmps4
    go_wp2
    all_goals go_ret
    all_goals (refine ⟨ret_int ?_, rfl⟩; rw [HS.out]; split <;> omega)
  · have hlt' : ¬ (k : Int) < (len : Int) := by omega
    have HS : Hid (stepZ zs k = if (k : Int) - 1 < 0 then -1 else (k : Int) - 1) := by
      unfold Hid stepZ
      rw [show zs.getD (k : Int).toNat 0 = 0 from by simp; rw [List.getElem?_eq_none (by omega)]; rfl]; simp
    have HL : Hid (len = zs.length) := hl
    clear hl hu
    go_enter Yba.func4, Yba.ntmps4
    go_wp2
    all_goals go_ret
    all_goals (refine ⟨ret_int ?_, rfl⟩; rw [HS.out]; split <;> omega)

theorem step_int (a : Option Addr) (len cap : Nat) (zs : List Int) (k : Int) (w : World) (B : Nat) (hl : len = zs.length) (hk0 : 0 ≤ k) (hk : k ≤ 100000) (hu : U8s w B a len zs) :
    Calls Yba.prog 4 #[.slice a len cap, .int .i64 k] w fun e w' => e = .returned (.int .i64 (stepZ zs k)) ∧ w' = w := by
  obtain ⟨n, rfl⟩ : ∃ n : Nat, k = n := ⟨k.toNat, by omega⟩
  exact step_any a len cap zs n w B hl (by omega) hu

set_option maxRecDepth 100000 in
theorem count_any (a : Option Addr) (len cap : Nat) (zs : List Int) (k : Nat) (w : World) (B : Nat) (hl : len = zs.length) (hk : k ≤ 100000) (hu : U8s w B a len zs) :
    Calls Yba.prog 6 #[.slice a len cap, .int .i64 k] w fun e w' => e = .returned (.int .i64 (cntN zs k)) ∧ w' = w := by
  have hk0 : (0 : Int) ≤ (k : Int) := by omega
  have hg := getD_mod zs k
  by_cases hlt : k < len
  · obtain ⟨b, off, rfl, h2, h3, h4, h5⟩ := hu k hlt
    have hlt' : (k : Int) < (len : Int) := by omega
    obtain ⟨z, hz⟩ : ∃ z, z = zs.getD k 0 := ⟨_, rfl⟩
    have HS : Hid (((cntN zs k : Nat) : Int) = z % 3) := by unfold Hid cntN; rw [hz]; show ((zs.getD k 0 % 3).toNat : Int) = _; omega
    rw [← hz] at h3 h4 h5 hg
    clear hz hu
    have HL : Hid (len = zs.length) := hl
    clear hl
    go_enter Yba.func6, Yba.ntmps6
    go_wp2
    go_ret
    refine ⟨ret_int ?_, rfl⟩; rw [HS.out]
  · have hlt' : ¬ (k : Int) < (len : Int) := by omega
    have HS : Hid (((cntN zs k : Nat) : Int) = 0) := by
      unfold Hid cntN
      rw [show zs.getD (k : Int).toNat 0 = 0 from by simp; rw [List.getElem?_eq_none (by omega)]; rfl]; simp
    have HL : Hid (len = zs.length) := hl
    clear hl hu
    go_enter Yba.func6, Yba.ntmps6
    go_wp2
    go_ret
    refine ⟨ret_int ?_, rfl⟩; rw [HS.out]

theorem count_int (a : Option Addr) (len cap : Nat) (zs : List Int) (k : Int) (w : World) (B : Nat) (hl : len = zs.length) (hk0 : 0 ≤ k) (hk : k ≤ 100000) (hu : U8s w B a len zs) :
    Calls Yba.prog 6 #[.slice a len cap, .int .i64 k] w fun e w' => e = .returned (.int .i64 (cntN zs k)) ∧ w' = w := by
  obtain ⟨n, rfl⟩ : ∃ n : Nat, k = n := ⟨k.toNat, by omega⟩
  exact count_any a len cap zs n w B hl (by omega) hu

set_option maxRecDepth 100000 in
theorem name_any (o j : Int) (w : World) (ho : 0 ≤ o) (ho' : o ≤ 100000) (hj : 0 ≤ j) (hj' : j ≤ 2) :
    Calls Yba.prog 7 #[.int .i64 o, .int .i64 j] w fun e w' => e = .returned (.string (nameB o j)) ∧ Below w.heap.size w w' := by
  have h26 : 0 ≤ o % 26 ∧ o % 26 < 26 := by omega
  have hcv := run_convert_bytes_arg (P := Yba.prog) (w.alloc (.cells #[.int .u8 (97 + o % 26), .int .u8 (48 + j)] 5)) 23 5 Yba.underlying23 Yba.underlying5 w.heap.size 0 2 2 [97 + o % 26, 48 + j] rfl (by
    intro i hi
    match i, hi with
    | 0, _ => simp
    | 1, _ => simp) 9 Yba.underlying9
  rw [show strOfNums [97 + o % 26, 48 + j] = nameB o j from rfl] at hcv
  go_enter Yba.func7, Yba.ntmps7
  go_wp2
  go_ret
  exact ⟨rfl, (Below.refl _ _).alloc (Nat.le_refl _) _⟩
end Go.Proofs.Ybulklyc
