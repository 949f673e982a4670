/-
  THE WALK of diskstore.LawS0629AModel.
-/
import Derived.Test.YbulklzsDoorTrip
import Derived.Test.YbulklzsDoorUv
import Derived.Deep.QuietTactic
import Derived.BigQuiet
namespace Go.Proofs.YbulklzsDoor
open Go.RowKit
set_option linter.unusedVariables false

set_option maxRecDepth 100000 in
theorem model_long (a0 : Option Addr) (n c : Nat) (w : World) (hl : 4096 < n) :
    Calls Ybad.prog 4 #[.slice a0 n c] w fun e w' => e = .returned (.bool true) ∧ Below w.heap.size w w' := by
  have h0' : (4096 : Int) < (n : Int) := by omega
  go_enter Ybad.func4, Ybad.ntmps4
  go_wp2
  go_ret
  exact ⟨rfl, Below.refl _ _⟩

set_option maxRecDepth 100000 in
set_option maxHeartbeats 1000000 in
theorem model_short (a0 : Option Addr) (n c : Nat) (l : List UInt8) (E : Value) (T : TypeId) (p : Value) (w : World) (hE : E = .iface T p) (hg : w.cell? ⟨0, 0, none⟩ = some E) (hg0 : 0 < w.heap.size)
    (hn : n ≤ 4096) (ht : CellB w a0 n l) (hnc : n ≤ c) (hc63 : c ≤ 9223372036854775807) :
    Calls Ybad.prog 4 #[.slice a0 n c] w fun e w' => e = .returned (.bool true) ∧ Below w.heap.size w w' := by
  have h0' : (n : Int) ≤ 4096 := by omega
  have HT : Hid (CellB w a0 n l) := ht
  have HTB : Hid (∀ ad : Addr, a0 = some ad → 0 < n → ad.block < w.heap.size) := cellB_lt ht
  have HG : Hid (w.cell? ⟨0, 0, none⟩ = some E) := hg
  have hmk := fun w => run_make_row' (P := Ybad.prog) 22 5 (.int .u8 0) 1 Ybad.underlying22 info5 rfl .i64 .i64 n (by omega) (by omega) w
  clear ht hg
  go_enter Ybad.func4, Ybad.ntmps4
  go_wp2_with (refine copy_bytes rfl (.tmp 17) (.tmp 18) rfl w.heap.size n a0 c l rfl rfl (heap_alloc_new _ _) (HT.out.kept fun ad ha hn => Below.heap_alloc _ _ _ (HTB.out ad ha hn)) (HTB.out) ((Below.refl w.heap.size w).alloc (Nat.le_refl _) _) (Nat.le_refl _) ?_)
  intro w4 hx4 hs4 hsz hB4 hB4'
  have HX4 : Hid (CellB w4 (some ⟨w.heap.size, 0, none⟩) n l) := hx4
  have HS4 : Hid (CellB w4 a0 n l) := hs4
  have HB4 : Hid (Below w.heap.size w w4) := hB4
  have hg4 : w4.cell? ⟨0, 0, none⟩ = some E := by rw [HB4.out.cell (p := ⟨0, 0, none⟩) hg0]; exact HG.out
  have HG4 : Hid (w4.cell? ⟨0, 0, none⟩ = some E) := hg4
  have hRge := HB4.out.size
  obtain ⟨X, hX⟩ : ∃ X, X = w.heap.size := ⟨_, rfl⟩
  rw [← hX] at hsz HX4 ⊢
  clear hB4 hB4' hx4 hs4 hmk HG hg4 HT hX
  go_wp2_with fail
  have hr5 := rd_new HX4.out (cellB_lt HX4.out) (Nat.le_refl n) .nilIface
  have hB5 := HB4.out.alloc hRge (Obj.cells #[Value.slice (some ⟨X, 0, none⟩) n n, Value.nilIface] 28)
  have hx5 := cellB_alloc HS4.out (Obj.cells #[Value.slice (some ⟨X, 0, none⟩) n n, Value.nilIface] 28)
  have hg5 : (w4.alloc (Obj.cells #[Value.slice (some ⟨X, 0, none⟩) n n, Value.nilIface] 28)).cell? ⟨0, 0, none⟩ = some E := by
    rw [World.cell?_of_block (w := w4) (a := ⟨0, 0, none⟩) (Below.heap_alloc _ _ _ (Nat.lt_of_lt_of_le hg0 hRge))]
    exact HG4.out
  obtain ⟨w5, hw5⟩ : ∃ w5, w5 = w4.alloc (Obj.cells #[Value.slice (some ⟨X, 0, none⟩) n n, Value.nilIface] 28) := ⟨_, rfl⟩
  rw [← hw5] at hr5 hB5 hx5 hg5 ⊢
  obtain ⟨R, hR⟩ : ∃ R, R = w4.heap.size := ⟨_, rfl⟩
  rw [← hR] at hr5 hRge hsz ⊢
  have hx0 : ∀ ad : Addr, a0 = some ad → 0 < n → ad.block ≠ R := fun ad ha hn => by have := HTB.out ad ha hn; omega
  clear hw5 hR HG4 HX4 HB4 HS4
  have hR0 : R ≠ 0 := by omega
  by_cases hneg : (Lib.uvarintDec l).2 ≤ 0
  · have hsk := string_bad hE hR0 hr5 hg5 (Or.inl rfl) (Or.inr hneg) (by omega)
    refine hsk.mono ?_
    rintro e w6 ⟨rfl, ⟨a6, c6, hr6⟩, hg6⟩
    have hx6 := cellB_grown hx5 hx0 hg6
    have HX6 : Hid (CellB w6 a0 n l) := hx6
    have HB6 : Hid (Below w.heap.size w w6) := hB5.grown hg6 hB5.size (fun k hk => by simp at hk; omega)
    obtain ⟨hb6, hc6, _, hnc6⟩ := hr6
    have HC6 : Hid (CellB w6 a6 n l) := hc6
    have c0 : w6.cell? ⟨R, 0, none⟩ = some (.slice a6 n c6) := by simp only [World.cell?, hb6]; rfl
    have c1' : w6.cell? ⟨R, 1, none⟩ = some (.iface T p) := by rw [hE] at hb6; simp only [World.cell?, hb6]; rfl
    have hau := auv_any hx6 c
    rw [show auvRes (Lib.uvarintDec l) = .tuple #[.int .u64 0, .int .i64 0, .bool false] from auvRes_neg (Lib.uvarintDec l).1 _ hneg] at hau
    have HAU : Hid (Calls Ybad.prog 8 #[.slice a0 n c] w6 fun e w' => e = .returned (.tuple #[.int .u64 0, .int .i64 0, .bool false]) ∧ w' = w6) := hau
    clear hr5 hB5 hx5 hsk hg6 hc6 hb6 hg5 hx6 hau hneg
    go_wp2_with fail
    refine HAU.out.mono ?_
    rintro e w7 ⟨rfl, hw7⟩
    subst hw7
    go_wp2_with fail
    have heq := equal_any a6 a0 n c6 n c l l w7 HC6.out HX6.out
    rw [show (l == l) = true from beq_self_eq_true l] at heq
    refine heq.mono ?_
    rintro e w8 ⟨rfl, hw8⟩
    subst hw8
    clear heq
    go_wp2_with fail
    go_ret
    exact ⟨rfl, HB6.out⟩
  · obtain ⟨k, hk⟩ : ∃ k : Nat, (Lib.uvarintDec l).2 = (k : Int) := ⟨(Lib.uvarintDec l).2.toNat, by omega⟩
    have hk1 : 1 ≤ k := by omega
    have hle := dec_le l
    have hkn : k ≤ n := by rw [hk, hx5.1] at hle; omega
    have hd : Lib.uvarintDec l = ((Lib.uvarintDec l).1, (k : Int)) := by rw [← hk]
    have hau := auvRes_pos (Lib.uvarintDec l).1 k (by omega)
    rw [← hd] at hau
    have hv64 := Lib.uvarintFrom_lt l 0 0 (by omega) (by decide)
    rw [show Lib.uvarintFrom 0 0 l = Lib.uvarintDec l from rfl] at hv64
    have hs1 := fun X => slice_lo a0 n c k hkn X
    have hcd := cellB_drop hx5 k hkn hnc
    rw [show (if c = k then a0 else a0.map (·.add (k * 1))) = cut a0 c k from rfl] at hcd
    obtain ⟨ct, hct⟩ : ∃ ct, ct = cut a0 c k := ⟨_, rfl⟩
    rw [← hct] at hs1 hcd
    have hctB : ∀ ad : Addr, ct = some ad → 0 < n - k → ad.block ≠ R := by
      intro ad ha hn'
      rw [hct] at ha
      obtain ⟨x, hx, hb⟩ := cut_block ha
      rw [← hb]
      exact hx0 x hx (by omega)
    by_cases hov : n - k < (Lib.uvarintDec l).1
    · have hsk := string_over hE hR0 hr5 hg5 hk hk1 hov (by omega)
      refine hsk.mono ?_
      rintro e w6 ⟨rfl, ⟨a6, c6, hr6⟩, hg6⟩
      have hau6 := auv_any (cellB_grown hx5 hx0 hg6) c
      rw [hau] at hau6
      obtain ⟨v, hv⟩ : ∃ v, v = (Lib.uvarintDec l).1 := ⟨_, rfl⟩
      rw [← hv] at hau6 hov hv64
      obtain ⟨m, hm⟩ : ∃ m, m = n - k := ⟨_, rfl⟩
      have HX6 : Hid (CellB w6 ct m (l.drop k)) := hm ▸ cellB_grown hcd hctB hg6
      have HB6 : Hid (Below w.heap.size w w6) := hB5.grown hg6 hB5.size (fun k hk => by simp at hk; omega)
      obtain ⟨hb6, hc6, _, hnc6⟩ := hr6
      rw [← hm] at hb6 hc6 hs1 hov
      have HC6 : Hid (CellB w6 a6 m (l.drop k)) := hc6
      have c0 : w6.cell? ⟨R, 0, none⟩ = some (.slice a6 m c6) := by simp only [World.cell?, hb6]; rfl
      have c1' : w6.cell? ⟨R, 1, none⟩ = some (.iface T p) := by rw [hE] at hb6; simp only [World.cell?, hb6]; rfl
      have HAU : Hid (Calls Ybad.prog 8 #[.slice a0 n c] w6 fun e w' => e = .returned (.tuple #[.int .u64 v, .int .i64 k, .bool true]) ∧ w' = w6) := hau6
      have hov' : (m : Int) < (v : Int) := by omega
      have hm' : m ≤ 4096 := by omega
      clear hr5 hB5 hx5 hsk hg6 hc6 hb6 hg5 hau6 hau hneg hd hcd hctB hct hk hle hv hm
      go_wp2_with fail
      refine HAU.out.mono ?_
      rintro e w7 ⟨rfl, hw7⟩
      subst hw7
      go_wp2_with fail
      have heq := equal_any a6 ct m c6 m (c - k) (l.drop k) (l.drop k) w7 HC6.out HX6.out
      rw [show (l.drop k == l.drop k) = true from beq_self_eq_true (l.drop k)] at heq
      refine heq.mono ?_
      rintro e w8 ⟨rfl, hw8⟩
      subst hw8
      clear heq
      go_wp2_with fail
      go_ret
      exact ⟨rfl, HB6.out⟩
    · have hsk := string_ok hr5 hk hk1 (by omega) (by omega)
      refine hsk.mono ?_
      rintro e w6 ⟨rfl, ⟨a6, c6, hr6⟩, hg6⟩
      have hau6 := auv_any (cellB_grown hx5 hx0 hg6) c
      rw [hau] at hau6
      obtain ⟨v, hv⟩ : ∃ v, v = (Lib.uvarintDec l).1 := ⟨_, rfl⟩
      rw [← hv] at hau6 hov hv64 hr6 ⊢
      obtain ⟨m, hm⟩ : ∃ m, m = n - k := ⟨_, rfl⟩
      have hx6 : CellB w6 ct m (l.drop k) := hm ▸ cellB_grown hcd hctB hg6
      have HB6 : Hid (Below w.heap.size w w6) := hB5.grown hg6 hB5.size (fun k hk => by simp at hk; omega)
      obtain ⟨hb6, hc6, _, hnc6⟩ := hr6
      rw [← hm] at hb6 hc6 hs1 hov
      have hmc : m ≤ c - k := by omega
      have hvm : v ≤ m := by omega
      have HC6 : Hid (CellB w6 a6 (m - v) ((l.drop k).drop v)) := hc6
      have HX6 : Hid (CellB w6 (cut ct (c - k) v) (m - v) ((l.drop k).drop v)) := cellB_drop hx6 v hvm hmc
      obtain ⟨cv, hcv⟩ : ∃ cv, cv = cut ct (c - k) v := ⟨_, rfl⟩
      have hs2 := fun X => slice_hi ct m (c - k) v (by omega) X
      have hs3 := fun X => slice_lo ct m (c - k) v hvm X
      rw [← hcv] at hs3 HX6
      have hcn : ∀ q, (convert 22 9 (.slice ct v (c - k))).run Ybad.prog (w6.drewN q) = .ok (.string ⟨((l.drop k).take v).toArray⟩) (w6.drewN q) := fun q => conv_bytes (w := w6.drewN q) (cellB_take hx6 v hvm) (c - k)
      obtain ⟨S, hS⟩ : ∃ S : ByteArray, S = ⟨((l.drop k).take v).toArray⟩ := ⟨_, rfl⟩
      rw [← hS] at hcn ⊢
      have c0 : w6.cell? ⟨R, 0, none⟩ = some (.slice a6 (m - v) c6) := by simp only [World.cell?, hb6]; rfl
      have c1' : w6.cell? ⟨R, 1, none⟩ = some .nilIface := by simp only [World.cell?, hb6]; rfl
      have HAU : Hid (Calls Ybad.prog 8 #[.slice a0 n c] w6 fun e w' => e = .returned (.tuple #[.int .u64 v, .int .i64 k, .bool true]) ∧ w' = w6) := hau6
      have hov' : (v : Int) ≤ (m : Int) := by omega
      have hm' : m ≤ 4096 := by omega
      obtain ⟨L', hL'⟩ : ∃ L', L' = (l.drop k).drop v := ⟨_, rfl⟩
      rw [← hL'] at HC6 HX6
      obtain ⟨r, hr⟩ : ∃ r, r = m - v := ⟨_, rfl⟩
      rw [← hr] at HC6 HX6 c0 hs3
      obtain ⟨ck, hck⟩ : ∃ ck, ck = c - k := ⟨_, rfl⟩
      rw [← hck] at hs1 hs2 hs3 hcn
      clear hr5 hB5 hx5 hsk hg6 hc6 hb6 hg5 hau6 hau hneg hd hcd hctB hct hk hle hv hm hS hL' hr hck hx6 hcv hnc6 hmc
      go_wp2_with fail
      refine HAU.out.mono ?_
      rintro e w7 ⟨rfl, hw7⟩
      subst hw7
      go_wp2_with fail
      go_quiet ((go_at_call 7; exact Calls.quiet_of_same (equal_any a6 cv r c6 r (ck - v) L' L' (w7.drewN _) HC6.out HX6.out)))
      go_wp2
      go_ret
      exact ⟨rfl, below_drewN HB6.out nq⟩
end Go.Proofs.YbulklzsDoor
