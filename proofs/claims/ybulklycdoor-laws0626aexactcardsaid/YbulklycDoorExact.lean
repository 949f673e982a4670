/-
  THE WALK of mooring.LawS0626AExact.
-/
import Derived.Test.YbulklycDoorDec
namespace Go.Proofs.YbulklycDoor
open Go.RowKit
set_option linter.unusedVariables false

theorem dec_any (n : Int) (w : World) (h0 : -9223372036854775808 ≤ n) (h1 : n ≤ 9223372036854775807) :
    Calls Ybad.prog 6 #[.int .i64 n] w fun e w' => e = .returned (.string ⟨(Lib.itoa n).toArray⟩) ∧ Below w.heap.size w w' := by
  by_cases h : 0 ≤ n
  · exact dec_pos n w h h1
  · exact dec_neg n w h0 (by omega)

theorem same_list (s : ByteArray) : (s.toList == s.toList) = true := by simp

set_option maxRecDepth 100000 in
set_option maxHeartbeats 400000 in
theorem exact_four (sel v n : Int) (w : World) (hs0 : 0 ≤ sel) (hs1 : sel ≤ 255) (hs : sel % 2 = 0 ∨ v = 4) (h0 : -9223372036854775808 ≤ n) (h1 : n ≤ 9223372036854775807) (htab : Lib.TabIs Ybad.prog w powName .u64 Lib.pow10Tab) :
    Calls Ybad.prog 3 #[.int .u8 sel, .int .i64 v, .int .i64 n] w fun e w' => e = .returned (.bool true) ∧ Below w.heap.size w w' := by
  have hl := Lib.itoa_length_le n h0 h1
  obtain ⟨S, hS⟩ : ∃ S : ByteArray, S = ⟨(Lib.itoa n).toArray⟩ := ⟨_, rfl⟩
  have hsS : S.size ≤ 21 := by rw [hS]; simpa [ByteArray.size] using hl
  have HSS : Hid (S = ⟨(Lib.itoa n).toArray⟩) := hS
  obtain ⟨A, hA⟩ : ∃ A, A = line ⟨#[35]⟩ n := ⟨_, rfl⟩
  have f4 : (A.toList == (⟨#[35]⟩ ++ S ++ ⟨#[32, 114, 101, 99, 121, 99, 108, 101, 100]⟩ : ByteArray).toList) = true := by rw [hA, hS]; exact same_list _
  have HA : Hid (A = line ⟨#[35]⟩ n) := hA
  have HT : Hid (Lib.TabIs Ybad.prog w powName .u64 Lib.pow10Tab) := htab
  clear htab hS hA
  by_cases he : sel % 2 = 0
  · have he' : (sel % 2 == 0) = true := by simpa using he
    clear hs
    have HE : Hid (sel % 2 = 0) := he
    clear he
    go_enter Ybad.func3, Ybad.ntmps3
    go_wp2_with fail
    refine (line_four n w h0 h1 HT.out).mono ?_
    rintro e w1 ⟨rfl, hb1⟩
    rw [← HA.out]
    go_wp2_with fail
    refine (dec_any n w1 h0 h1).mono ?_
    rintro e w2 ⟨rfl, hb2⟩
    rw [← HSS.out]
    go_wp2_with fail
    go_ret
    exact ⟨rfl, hb1.trans (hb2.mono hb1.size)⟩
  · have he' : (sel % 2 == 0) = false := by simpa using he
    obtain rfl : v = 4 := by omega
    clear hs
    have HE : Hid (¬ sel % 2 = 0) := he
    clear he
    go_enter Ybad.func3, Ybad.ntmps3
    go_wp2_with fail
    refine (line_four n w h0 h1 HT.out).mono ?_
    rintro e w1 ⟨rfl, hb1⟩
    rw [← HA.out]
    go_wp2_with fail
    refine (dec_any n w1 h0 h1).mono ?_
    rintro e w2 ⟨rfl, hb2⟩
    rw [← HSS.out]
    go_wp2_with fail
    go_ret
    exact ⟨rfl, hb1.trans (hb2.mono hb1.size)⟩

set_option maxRecDepth 100000 in
set_option maxHeartbeats 400000 in
theorem exact_other (sel v n : Int) (w : World) (hs0 : 0 ≤ sel) (hs1 : sel ≤ 255) (he' : (sel % 2 == 0) = false) (hv : (v == 4) = false) (h0 : -9223372036854775808 ≤ n) (h1 : n ≤ 9223372036854775807) (htab : Lib.TabIs Ybad.prog w powName .u64 Lib.pow10Tab) :
    Calls Ybad.prog 3 #[.int .u8 sel, .int .i64 v, .int .i64 n] w fun e w' => e = .returned (.bool true) ∧ Below w.heap.size w w' := by
  have hl := Lib.itoa_length_le n h0 h1
  obtain ⟨S, hS⟩ : ∃ S : ByteArray, S = ⟨(Lib.itoa n).toArray⟩ := ⟨_, rfl⟩
  have hsS : S.size ≤ 21 := by rw [hS]; simpa [ByteArray.size] using hl
  have HSS : Hid (S = ⟨(Lib.itoa n).toArray⟩) := hS
  obtain ⟨A, hA⟩ : ∃ A, A = line ⟨#[35, 32]⟩ n := ⟨_, rfl⟩
  have f4 : (A.toList == (⟨#[35, 32]⟩ ++ S ++ ⟨#[32, 114, 101, 99, 121, 99, 108, 101, 100]⟩ : ByteArray).toList) = true := by rw [hA, hS]; exact same_list _
  have HA : Hid (A = line ⟨#[35, 32]⟩ n) := hA
  have HT : Hid (Lib.TabIs Ybad.prog w powName .u64 Lib.pow10Tab) := htab
  clear htab hS hA
  go_enter Ybad.func3, Ybad.ntmps3
  go_wp2_with fail
  refine (line_other v n w hv h0 h1 HT.out).mono ?_
  rintro e w1 ⟨rfl, hb1⟩
  rw [← HA.out]
  go_wp2_with fail
  refine (dec_any n w1 h0 h1).mono ?_
  rintro e w2 ⟨rfl, hb2⟩
  rw [← HSS.out]
  go_wp2_with fail
  go_ret
  exact ⟨rfl, hb1.trans (hb2.mono hb1.size)⟩

theorem exact_any (sel v n : Int) (w : World) (hs0 : 0 ≤ sel) (hs1 : sel ≤ 255) (h0 : -9223372036854775808 ≤ n) (h1 : n ≤ 9223372036854775807) (htab : Lib.TabIs Ybad.prog w powName .u64 Lib.pow10Tab) :
    Calls Ybad.prog 3 #[.int .u8 sel, .int .i64 v, .int .i64 n] w fun e w' => e = .returned (.bool true) ∧ Below w.heap.size w w' := by
  by_cases h : sel % 2 = 0 ∨ v = 4
  · exact exact_four sel v n w hs0 hs1 h h0 h1 htab
  · exact exact_other sel v n w hs0 hs1 (by simp; omega) (by simp; omega) h0 h1 htab
end Go.Proofs.YbulklycDoor
