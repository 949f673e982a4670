/-
  THE CONTRACT of headReader.string.
-/
import Derived.Test.YbulklzsDoorStr
namespace Go.Proofs.YbulklzsDoor
open Go.RowKit
set_option linter.unusedVariables false

theorem cellB_take {w : World} {a : Option Addr} {n : Nat} {l : List UInt8} (h : CellB w a n l) (m : Nat) (hm : m ≤ n) : CellB w a m (l.take m) := by
  refine ⟨by rw [List.length_take, h.1]; omega, fun j b hj => ?_⟩
  have hjm : j < m := by
    have := (List.getElem?_eq_some_iff.1 hj).1
    rw [List.length_take] at this
    omega
  rw [List.getElem?_take_of_lt hjm] at hj
  exact h.2 j b hj

theorem slice_hi (a : Option Addr) (n c m : Nat) (hm : m ≤ c) (W : World) : (Instr.sliceAt 22 (.slice a n c) none (some (.int .i64 (m : Int))) none).run Ybad.prog W = .ok (.slice a m c) W := by
  have hm3 : (0 : Int) ≤ (m : Int) := by omega
  have hm4 : (m : Int) ≤ (c : Int) := by omega
  rw [run_sliceAt_slice W 22 _ _ _ _ Ybad.underlying22]
  simp [run_slice_h, Ybad.underlying22, hm3, hm4, sliced, go_sem]
theorem slice_lo (a : Option Addr) (n c m : Nat) (hm : m ≤ n) (W : World) : (Instr.sliceAt 22 (.slice a n c) (some (.int .i64 (m : Int))) none none).run Ybad.prog W = .ok (.slice (cut a c m) (n - m) (c - m)) W := by
  have hk3 : (0 : Int) ≤ (m : Int) := by omega
  have hk4 : (m : Int) ≤ (n : Int) := by omega
  unfold cut
  rw [run_sliceAt_slice W 22 _ _ _ _ Ybad.underlying22]
  simp [run_slice_l, Ybad.underlying22, hk3, hk4, sliced, go_sem]

set_option maxRecDepth 100000 in
set_option maxHeartbeats 400000 in
/-- string, whatever count gave. -/
theorem str_of (R : Nat) (a : Option Addr) (n c m : Nat) (ev : Value) (l : List UInt8) (w W : World) (hcnt : Calls Ybad.prog 9 #[.pointer (some ⟨R, 0, none⟩)] w fun e w' => e = .returned (.int .i64 (m : Int)) ∧ w' = W)
    (hr : Rd W R a n c ev l) (hm : m ≤ n) :
    Calls Ybad.prog 6 #[.pointer (some ⟨R, 0, none⟩)] w fun e w' => e = .returned (.string ⟨(l.take m).toArray⟩) ∧ w' = W.setCell ⟨R, 0, none⟩ (.slice (cut a c m) (n - m) (c - m)) := by
  obtain ⟨hb, hc, hne, hnc⟩ := hr
  have c0 : W.cell? ⟨R, 0, none⟩ = some (.slice a n c) := by simp [World.cell?, hb]
  have f0 : W.frozen? ⟨R, 0, none⟩ = false := by simp [World.frozen?, hb]
  have hs1 := fun X => slice_hi a n c m (by omega) X
  have hs2 := fun X => slice_lo a n c m hm X
  have hcv := conv_bytes (cellB_take hc m hm) c
  obtain ⟨S, hS⟩ : ∃ S : ByteArray, S = ⟨(l.take m).toArray⟩ := ⟨_, rfl⟩
  obtain ⟨ct, hct⟩ : ∃ ct, ct = cut a c m := ⟨_, rfl⟩
  rw [← hS] at hcv ⊢
  rw [← hct]
  rw [← hct] at hs2
  have HC : Hid (Calls Ybad.prog 9 #[.pointer (some ⟨R, 0, none⟩)] w fun e w' => e = .returned (.int .i64 (m : Int)) ∧ w' = W) := hcnt
  clear hcnt hb hc hne hS hct
  go_enter Ybad.func6, Ybad.ntmps6
  go_wp2_with fail
  refine HC.out.mono ?_
  rintro e w1 ⟨rfl, hw1⟩
  subst hw1
  go_wp2_with fail
  go_ret
  exact ⟨rfl, rfl⟩
end Go.Proofs.YbulklzsDoor
