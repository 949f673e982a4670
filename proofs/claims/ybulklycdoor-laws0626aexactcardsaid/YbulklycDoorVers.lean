/-
  THE WALK of mooring.LawS0626AVersions.
-/
import Derived.Test.YbulklycDoorLine
import Derived.Lib.SmallJoins
import Derived.Lib.IndexBytes
namespace Go.Proofs.YbulklycDoor
open Go.RowKit
set_option linter.unusedVariables false

/-- What stands behind the prefix. -/
def tail (n : Int) : List UInt8 := Lib.itoa n ++ [32, 114, 101, 99, 121, 99, 108, 101, 100]

theorem app_list (a b : ByteArray) : (a ++ b).toList = a.toList ++ b.toList := by
  rw [ByteArray.toList_eq, ByteArray.toList_eq, ByteArray.toList_eq]
  obtain ⟨⟨x⟩⟩ := a
  obtain ⟨⟨y⟩⟩ := b
  rw [ByteArray.mk_append_mk]
theorem size_list (a : ByteArray) : a.size = a.toList.length := by rw [ByteArray.toList_eq]; rfl
theorem line_list (p : List UInt8) (n : Int) : (line ⟨p.toArray⟩ n).toList = p ++ tail n := by
  unfold line tail
  rw [app_list, app_list, ByteArray.toList_mk, ByteArray.toList_mk, show (⟨#[32, 114, 101, 99, 121, 99, 108, 101, 100]⟩ : ByteArray).toList = [32, 114, 101, 99, 121, 99, 108, 101, 100] from ByteArray.toList_mk _, List.append_assoc]
theorem extract_list (a : ByteArray) (k : Nat) : (a.extract k a.size).toList = a.toList.drop k := by
  rw [ByteArray.toList_eq, ByteArray.toList_eq]; exact Lib.extract_to_end a k
theorem get_list (a : ByteArray) (h : 0 < a.size) (x : UInt8) (t : List UInt8) (e : a.toList = x :: t) : a[0]'h = x := by
  rw [ByteArray.toList_eq] at e
  obtain ⟨⟨l⟩⟩ := a
  simp at e
  subst e
  rfl

set_option maxRecDepth 100000 in
set_option maxHeartbeats 400000 in
theorem vers_any (n : Int) (w : World) (h0 : -9223372036854775808 ≤ n) (h1 : n ≤ 9223372036854775807) (htab : Lib.TabIs Ybad.prog w powName .u64 Lib.pow10Tab) :
    Calls Ybad.prog 4 #[.int .i64 n] w fun e w' => e = .returned (.bool true) ∧ Below w.heap.size w w' := by
  have hl := Lib.itoa_length_le n h0 h1
  have HT : Hid (Lib.TabIs Ybad.prog w powName .u64 Lib.pow10Tab) := htab
  clear htab
  go_enter Ybad.func4, Ybad.ntmps4
  go_wp2_with fail
  refine (line_four n w h0 h1 HT.out).mono ?_
  rintro e w1 ⟨rfl, hb1⟩
  go_wp2_with fail
  refine (line_other 17 n w1 rfl h0 h1 ((Lib.tabBelow_of_tabIs HT.out) w1 hb1)).mono ?_
  rintro e w2 ⟨rfl, hb2⟩
  have hB : Below w.heap.size w w2 := hb1.trans (hb2.mono hb1.size)
  have lA : (line ⟨#[35]⟩ n).toList = 35 :: tail n := line_list [35] n
  have lB : (line ⟨#[35, 32]⟩ n).toList = 35 :: 32 :: tail n := line_list [35, 32] n
  have HS : Hid ((⟨#[35]⟩ ++ ⟨(Lib.itoa n).toArray⟩ ++ ⟨#[32, 114, 101, 99, 121, 99, 108, 101, 100]⟩ : ByteArray) = line ⟨#[35]⟩ n) := rfl
  obtain ⟨A, hA⟩ : ∃ A, A = line ⟨#[35]⟩ n := ⟨_, rfl⟩
  obtain ⟨B, hB'⟩ : ∃ B, B = line ⟨#[35, 32]⟩ n := ⟨_, rfl⟩
  rw [← hA] at lA HS ⊢
  rw [← hB'] at lB ⊢
  clear hA hB'
  have hsA : A.size = (tail n).length + 1 := by rw [size_list, lA]; rfl
  have hA1 : 1 ≤ A.size := by omega
  have hA0 : 0 < A.size := by omega
  have hA2 : A.size ≤ 40 := by rw [hsA]; simp [tail]; omega
  have hA3 : (1 : Int) ≤ (A.size : Int) := by omega
  have f1 : (((A[0]'hA0).toNat : Int) != 35) = false := by rw [get_list A hA0 35 (tail n) lA]; rfl
  have f2 : (B.toList == (⟨#[35, 32]⟩ ++ A.extract 1 A.size : ByteArray).toList) = true := by
    rw [app_list, extract_list, lA, lB, show (⟨#[35, 32]⟩ : ByteArray).toList = [35, 32] from ByteArray.toList_mk [35, 32]]
    simp
  have f3 : (A.toList == B.toList) = false := by
    rw [lA, lB, beq_eq_false_iff_ne]
    intro h
    have h' := congrArg List.length h
    simp at h'
  have hsS : (⟨(Lib.itoa n).toArray⟩ : ByteArray).size ≤ 21 := by simpa [ByteArray.size] using hl
  obtain ⟨S, hS⟩ : ∃ S : ByteArray, S = ⟨(Lib.itoa n).toArray⟩ := ⟨_, rfl⟩
  rw [← hS] at HS hsS
  have f4 : (A.toList == (⟨#[35]⟩ ++ S ++ ⟨#[32, 114, 101, 99, 121, 99, 108, 101, 100]⟩ : ByteArray).toList) = true := by rw [HS.out]; simp
  have hTB : Lib.TabIs Ybad.prog w2 powName .u64 Lib.pow10Tab := (Lib.tabBelow_of_tabIs HT.out) w2 hB
  have HTB : Hid (Lib.TabIs Ybad.prog w2 powName .u64 Lib.pow10Tab) := hTB
  have HSS : Hid (S = ⟨(Lib.itoa n).toArray⟩) := hS
  clear lA lB hsA hl HS hTB hS
  go_wp2_with fail
  refine (Ybad.strconv_Itoa n h0 h1 w2 HTB.out).mono ?_
  rintro e w3 ⟨rfl, k, os, rfl⟩
  rw [← HSS.out]
  go_wp2_with fail
  go_ret
  exact ⟨rfl, hB.trans ((Lib.below_grow _ _ (Nat.le_refl _) _ _).mono hB.size)⟩
end Go.Proofs.YbulklycDoor
