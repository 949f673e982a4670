/-
  THE CONTRACTS of headReader's uvarint, count and string.
-/
import Derived.Test.YbulklzsDoorLib
namespace Go.Proofs.YbulklzsDoor
open Go.RowKit
set_option linter.unusedVariables false

/-- The reader in block R: what is left to read (the bytes l), and its error. -/
def Rd (w : World) (R : Nat) (a : Option Addr) (n c : Nat) (ev : Value) (l : List UInt8) : Prop :=
  w.heap[R]? = some (.cells #[.slice a n c, ev] 28 (0, 0)) ∧ CellB w a n l ∧ (∀ ad : Addr, a = some ad → 0 < n → ad.block ≠ R) ∧ n ≤ c

theorem dec_pos (l : List UInt8) (h : 0 < (Lib.uvarintDec l).2) : 0 < l.length := by
  cases l with
  | nil => simp [Lib.uvarintDec, Lib.uvarintFrom] at h
  | cons b r => simp

theorem from_le : ∀ (l : List UInt8) (i acc : Nat), (Lib.uvarintFrom i acc l).2 ≤ (i : Int) + l.length
  | [], i, acc => by simp [Lib.uvarintFrom]
  | b :: r, i, acc => by
    unfold Lib.uvarintFrom
    have := from_le r (i + 1) (acc + b.toNat % 128 * 2 ^ (7 * i))
    simp only [List.length_cons]
    split
    · omega
    · split
      · split <;> omega
      · omega
theorem dec_le (l : List UInt8) : (Lib.uvarintDec l).2 ≤ l.length := by
  have := from_le l 0 0
  unfold Lib.uvarintDec
  omega

/-- A slice cut from k on. -/
theorem cellB_drop {w : World} {a : Option Addr} {n c : Nat} {l : List UInt8} (h : CellB w a n l) (k : Nat) (hk : k ≤ n) (hnc : n ≤ c) : CellB w (if c = k then a else a.map (·.add (k * 1))) (n - k) (l.drop k) := by
  refine ⟨by rw [List.length_drop, h.1], fun j b hj => ?_⟩
  rw [List.getElem?_drop] at hj
  obtain ⟨g, o, h1, h2⟩ := h.2 (k + j) b hj
  have hlt := (List.getElem?_eq_some_iff.1 hj).1
  have hl := h.1
  rw [if_neg (by omega), h1]
  refine ⟨g, o + k, ?_, by rw [Nat.add_assoc]; exact h2⟩
  simp only [Option.map_some, Nat.mul_one]
  congr 1
  unfold Addr.add; split <;> simp_all

set_option maxRecDepth 100000 in
set_option maxHeartbeats 400000 in
/-- uvarint where there is an error already, or none can be decoded. -/
theorem uv_bad (R : Nat) (a : Option Addr) (n c : Nat) (ev E : Value) (l : List UInt8) (w : World) (T : TypeId) (p : Value) (hE : E = .iface T p) (hr : Rd w R a n c ev l) (hg : w.cell? ⟨0, 0, none⟩ = some E)
    (hev : ev = .nilIface ∨ ∃ t q, ev = .iface t q) (hbad : ev ≠ .nilIface ∨ (Lib.uvarintDec l).2 ≤ 0) :
    Calls Ybad.prog 10 #[.pointer (some ⟨R, 0, none⟩)] w fun e w' => e = .returned (.int .u64 0) ∧ w' = w.setCell ⟨R, 1, none⟩ E := by
  obtain ⟨hb, hc, hne, hnc⟩ := hr
  have c0 : w.cell? ⟨R, 0, none⟩ = some (.slice a n c) := by simp [World.cell?, hb]
  have c1 : w.cell? ⟨R, 1, none⟩ = some ev := by simp [World.cell?, hb]
  have f1 : w.frozen? ⟨R, 1, none⟩ = false := by simp [World.frozen?, hb]
  subst hE
  obtain ⟨v, hv⟩ : ∃ v : Int, v = ((Lib.uvarintDec l).1 : Int) := ⟨_, rfl⟩
  obtain ⟨k, hk⟩ : ∃ k : Int, k = (Lib.uvarintDec l).2 := ⟨_, rfl⟩
  rw [← hk] at hbad
  have HC : Hid (CellB w a n l) := hc
  have hdec : Calls Ybad.prog 11 #[.slice a n c] w fun e w' => e = .returned (.tuple #[.int .u64 v, .int .i64 k]) ∧ w' = w := by
    rw [hv, hk]
    by_cases hn : 0 < n
    · obtain ⟨g, o, rfl, hcell⟩ := hc.at hn
      exact Ybad.binary_Uvarint g o n c l w hc.1 hcell
    · obtain rfl : n = 0 := by omega
      obtain rfl : l = [] := List.eq_nil_of_length_eq_zero hc.1
      exact Ybad.binary_Uvarint_empty a c w
  have HD : Hid (Calls Ybad.prog 11 #[.slice a n c] w fun e w' => e = .returned (.tuple #[.int .u64 v, .int .i64 k]) ∧ w' = w) := hdec
  clear hdec hv hk hb hc hne
  go_enter Ybad.func10, Ybad.ntmps10
  go_wp2_with fail
  refine HD.out.mono ?_
  rintro e w1 ⟨rfl, hw1⟩
  subst hw1
  rcases hev with rfl | ⟨t, q, rfl⟩
  · have hk0 : k ≤ 0 := by
      rcases hbad with h | h
      · exact absurd rfl h
      · exact h
    clear hbad
    go_wp2_with fail
    go_ret
    exact ⟨rfl, rfl⟩
  · clear hbad
    go_wp2_with fail
    go_ret
    exact ⟨rfl, rfl⟩

/-- What is known of the decoder's call. -/
theorem dec_call {w : World} {a : Option Addr} {n : Nat} {l : List UInt8} (hc : CellB w a n l) (c : Nat) :
    Calls Ybad.prog 11 #[.slice a n c] w fun e w' => e = .returned (.tuple #[.int .u64 (Lib.uvarintDec l).1, .int .i64 (Lib.uvarintDec l).2]) ∧ w' = w := by
  by_cases hn : 0 < n
  · obtain ⟨g, o, rfl, hcell⟩ := hc.at hn
    exact Ybad.binary_Uvarint g o n c l w hc.1 hcell
  · obtain rfl : n = 0 := by omega
    obtain rfl : l = [] := List.eq_nil_of_length_eq_zero hc.1
    exact Ybad.binary_Uvarint_empty a c w

/-- The slice from k on, in the model's spelling. -/
def cut (a : Option Addr) (c k : Nat) : Option Addr := if c = k then a else a.map (·.add (k * 1))

set_option maxRecDepth 100000 in
set_option maxHeartbeats 400000 in
/-- uvarint where a number can be decoded: the number; the reader moves on. -/
theorem uv_good (R : Nat) (a : Option Addr) (n c k : Nat) (l : List UInt8) (w : World) (hr : Rd w R a n c .nilIface l) (hk : (Lib.uvarintDec l).2 = (k : Int)) (hk1 : 1 ≤ k) (hc63 : c ≤ 9223372036854775807) :
    Calls Ybad.prog 10 #[.pointer (some ⟨R, 0, none⟩)] w fun e w' => e = .returned (.int .u64 (Lib.uvarintDec l).1) ∧ w' = w.setCell ⟨R, 0, none⟩ (.slice (cut a c k) (n - k) (c - k)) := by
  obtain ⟨hb, hc, hne, hnc⟩ := hr
  have c0 : w.cell? ⟨R, 0, none⟩ = some (.slice a n c) := by simp [World.cell?, hb]
  have c1 : w.cell? ⟨R, 1, none⟩ = some .nilIface := by simp [World.cell?, hb]
  have f0 : w.frozen? ⟨R, 0, none⟩ = false := by simp [World.frozen?, hb]
  have hle := dec_le l
  have hkn : k ≤ n := by rw [hk, hc.1] at hle; omega
  obtain ⟨v, hv⟩ : ∃ v : Int, v = ((Lib.uvarintDec l).1 : Int) := ⟨_, rfl⟩
  have hdec := dec_call hc c
  rw [hk, ← hv] at hdec
  rw [← hv]
  have HD : Hid (Calls Ybad.prog 11 #[.slice a n c] w fun e w' => e = .returned (.tuple #[.int .u64 v, .int .i64 k]) ∧ w' = w) := hdec
  have hk0 : ¬ (k : Int) ≤ 0 := by omega
  have hk3 : (0 : Int) ≤ (k : Int) := by omega
  have hk4 : (k : Int) ≤ (n : Int) := by omega
  obtain ⟨ct, hct⟩ : ∃ ct, ct = cut a c k := ⟨_, rfl⟩
  rw [← hct]
  have hsl : ∀ W, (Instr.sliceAt 22 (.slice a n c) (some (.int .i64 (k : Int))) none none).run Ybad.prog W = .ok (.slice ct (n - k) (c - k)) W := by
    intro W
    rw [hct]
    unfold cut
    rw [run_sliceAt_slice W 22 _ _ _ _ Ybad.underlying22]
    simp [run_slice_l, Ybad.underlying22, hk3, hk4, sliced, go_sem]
  clear hdec hv hk hb hc hne hct hle
  go_enter Ybad.func10, Ybad.ntmps10
  go_wp2_with fail
  refine HD.out.mono ?_
  rintro e w1 ⟨rfl, hw1⟩
  subst hw1
  go_wp2_with fail
  go_ret
  exact ⟨rfl, rfl⟩
end Go.Proofs.YbulklzsDoor
