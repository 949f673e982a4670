/-
  THE WALK of jsonfmt.LawS0625ANilIffAllGiven, out of the contracts of zzs0625agiven and missing.
-/
import Derived.Test.YbulklxoFmtErr
namespace Go.Proofs.YbulklxoFmt
open Go.RowKit Go.Extern.Stop Go.Stop Go.Extern
set_option linter.unusedVariables false

theorem eql_nil (w : World) : (binOp BinOp.eql 26 .nilIface .nilIface).run Ybaf.prog w = .ok (.bool true) w := by kernel_rfl
theorem eql_err (a : Addr) (w : World) : (binOp BinOp.eql 26 (.iface 34 (.pointer (some a))) .nilIface).run Ybaf.prog w = .ok (.bool false) w := by kernel_rfl

set_option maxRecDepth 100000 in
set_option maxHeartbeats 1000000 in
theorem walk_short (F : Interp) (a0 a1 : Option Addr) (len0 cap0 len1 cap1 : Nat) (w : World) (hF : F.answers w.tape) (hl : len0 ≤ 1024) (hl1 : len1 ≤ 9223372036854775807) (hs : Strs w w.heap.size a0 len0) (hb : Bools w w.heap.size a1 len1) :
    Calls Ybaf.prog 3 #[.slice a0 len0 cap0, .slice a1 len1 cap1] w fun e w' => e = .returned (.bool true) ∧ Below w.heap.size w w' := by
  have HB : Hid (Bools w w.heap.size a1 len1) := hb
  have HS : Hid (Strs w w.heap.size a0 len0) := hs
  clear hb hs
  have hl' : (len0 : Int) ≤ 1024 := by omega
  have hn1 := eql_nil
  have hn2 := eql_err
  go_enter Ybaf.func3, Ybaf.ntmps3
  go_wp2_with fail
  refine (given_any a0 a1 len0 cap0 len1 cap1 w hl hl1 HB.out).mono ?_
  rintro e w1 ⟨rfl, ⟨bs, hbs, hrow⟩, hb1⟩
  have HR : Hid (Row w1 w.heap.size bs) := hrow
  have HL : Hid (bs.length = len0) := hbs
  have hF1 : F.answers w1.tape := by rw [hb1.tape]; exact hF
  clear hrow hbs
  go_wp2_with fail
  go_loop [6, 7] (fun t i => ∃ k : Nat, k ≤ len0 ∧ i = .int .i64 k ∧ t = .bool (allB (bs.take k))) (fun _ i => len0 - (intOf i).toNat)
  case atStart => exact ⟨0, Nat.zero_le _, rfl, rfl⟩
  case round =>
    obtain ⟨k, hk, rfl, rfl⟩ := hrel
    by_cases hlt : k < len0
    · have hkb : k < bs.length := by have := HL.out; omega
      have c1 := HR.out.cell k hkb
      have hk1 : (0 : Int) ≤ (k : Int) := by omega
      have hk2 : (k : Int) < (len0 : Int) := by omega
      cases hv : bs[k] with
      | true =>
        rw [hv] at c1
        have HV : Hid (bs[k] = true) := hv
        clear hv
        go_wp2_with fail
        go_round
        case rel => exact ⟨k + 1, by omega, by go_num, by rw [allB_snoc _ _ hkb, HV.out, Bool.and_true]⟩
        case measure => simp [intOf]; omega
      | false =>
        rw [hv] at c1
        have HV : Hid (bs[k] = false) := hv
        clear hv
        go_wp2_with fail
        go_round
        case rel => exact ⟨k + 1, by omega, by go_num, by rw [allB_snoc _ _ hkb, HV.out, Bool.and_false]⟩
        case measure => simp [intOf]; omega
    · have hkl : k = len0 := by omega
      have HA : Hid (allB (bs.take k) = allB bs) := by unfold Hid; rw [List.take_of_length_le (by rw [HL.out]; omega)]
      clear hkl
      go_wp2_with fail
      refine (missing_any F a0 len0 cap0 w.heap.size bs w1 hF1 hl HL.out HR.out (fun j hj => ?_)).mono ?_
      · obtain ⟨b, off, s, h1, h2, h3⟩ := (HS.out.below hb1 (Nat.le_refl _)) j hj
        exact ⟨b, off, s, h1, Nat.lt_of_lt_of_le h2 hb1.size, h3⟩
      · rintro e w2 ⟨⟨hall, rfl⟩ | ⟨hall, a', rfl⟩, hb2⟩
        · rw [HA.out, hall]
          have HH : Hid (allB bs = true) := hall
          clear hall
          go_wp2_with fail
          go_ret
          exact ⟨rfl, hb1.trans (hb2.mono hb1.size)⟩
        · rw [HA.out, hall]
          have HH : Hid (allB bs = false) := hall
          clear hall
          go_wp2_with fail
          go_ret
          exact ⟨rfl, hb1.trans (hb2.mono hb1.size)⟩

set_option maxRecDepth 100000 in
theorem walk_long (a0 a1 : Option Addr) (len0 cap0 len1 cap1 : Nat) (w : World) (hl : 1024 < len0) :
    Calls Ybaf.prog 3 #[.slice a0 len0 cap0, .slice a1 len1 cap1] w fun e w' => e = .returned (.bool true) ∧ Below w.heap.size w w' := by
  have hl' : (1024 : Int) < (len0 : Int) := by omega
  go_enter Ybaf.func3, Ybaf.ntmps3
  go_wp2
  go_ret
  exact ⟨rfl, Below.refl _ _⟩
end Go.Proofs.YbulklxoFmt
