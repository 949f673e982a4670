/-
  THE CONTRACT of mooring.zzs0626adec: the decimal numeral.
-/
import Derived.Test.YbulklycDoorVers
namespace Go.Proofs.YbulklycDoor
open Go.RowKit
set_option linter.unusedVariables false

/-- The buffer: block B holds just the bytes xs. -/
def Buf (w : World) (B : Nat) (xs : List Int) : Prop := w.heap[B]? = some (.cells (xs.map (Value.int .u8)).toArray 27 (0, 0))

theorem Buf.cell {w : World} {B : Nat} {xs : List Int} (h : Buf w B xs) (k : Nat) (hk : k < xs.length) : w.cell? ⟨B, k, none⟩ = some (.int .u8 (xs.getD k 0)) := by
  simp only [World.cell?, show w.heap[B]? = _ from h]; simp [hk]
theorem Buf.free {w : World} {B : Nat} {xs : List Int} (h : Buf w B xs) (k : Nat) : w.frozen? ⟨B, k, none⟩ = false := by
  simp [World.frozen?, show w.heap[B]? = _ from h]
theorem Buf.set {w : World} {B : Nat} {xs : List Int} (h : Buf w B xs) (k : Nat) (x : Int) : Buf (w.setCell ⟨B, k, none⟩ (.int .u8 x)) B (xs.set k x) := by
  unfold Buf at h ⊢
  simp only [World.setCell, Array.getElem?_modify]
  rw [if_pos trivial, h]
  simp [List.map_set]

/-- The bytes of a list, as the cells hold them. -/
def nums (ds : List UInt8) : List Int := ds.map fun b => (b.toNat : Int)

theorem drop_set (xs : List Int) (m : Nat) (d : Int) (hm : m < xs.length) : (xs.set m d).drop m = d :: xs.drop (m + 1) := by
  rw [List.drop_eq_getElem_cons (by simpa using hm)]
  simp [List.drop_set]

theorem digit (x : Int) (h : 0 ≤ x) : nums [UInt8.ofNat (48 + x.toNat % 10)] = [48 + x % 10] := by
  simp [nums]
  omega

theorem dec_step (x : Int) (hx : 10 ≤ x) : Lib.decDigits x.toNat = Lib.decDigits (x / 10).toNat ++ [UInt8.ofNat (48 + x.toNat % 10)] := by
  rw [Lib.decDigits, dif_neg (by omega)]
  congr 2
  omega
theorem dec_last (x : Int) (h0 : 0 ≤ x) (hx : x < 10) : Lib.decDigits x.toNat = [UInt8.ofNat (48 + x.toNat % 10)] := by
  rw [Lib.decDigits, dif_pos (by omega)]
  congr 2
  omega

/-- What holds at the head of each round: U's digits are x's and then those that lie in the buffer. -/
def Inv (U : Nat) (x : Int) (ds : List UInt8) : Prop := Lib.decDigits U = Lib.decDigits x.toNat ++ ds ∧ x.toNat * 10 ^ ds.length ≤ U

theorem Inv.step {U : Nat} {x : Int} {ds : List UInt8} (h : Inv U x ds) (hx : 10 ≤ x) : Inv U (x / 10) (UInt8.ofNat (48 + x.toNat % 10) :: ds) := by
  obtain ⟨h1, h2⟩ := h
  refine ⟨by rw [h1, dec_step x hx]; simp, ?_⟩
  have e : (x / 10).toNat * 10 ≤ x.toNat := by omega
  rw [List.length_cons, Nat.pow_succ, Nat.mul_comm (10 ^ ds.length) 10, ← Nat.mul_assoc]
  exact Nat.le_trans (Nat.mul_le_mul_right _ e) h2
theorem Inv.last {U : Nat} {x : Int} {ds : List UInt8} (h : Inv U x ds) (h0 : 0 ≤ x) (hx : x < 10) : Lib.decDigits U = UInt8.ofNat (48 + x.toNat % 10) :: ds := by
  rw [h.1, dec_last x h0 hx]; rfl
theorem Inv.len {U : Nat} {x : Int} {ds : List UInt8} (h : Inv U x ds) (hx : 1 ≤ x) (hU : U ≤ 9223372036854775808) : ds.length ≤ 18 := by
  by_cases hl : ds.length ≤ 18
  · exact hl
  · exfalso
    have h1 : 10 ^ 19 ≤ 10 ^ ds.length := Nat.pow_le_pow_right (by decide) (by omega)
    have h2 : 1 * 10 ^ ds.length ≤ x.toNat * 10 ^ ds.length := Nat.mul_le_mul_right _ (by omega)
    have h3 := h.2
    have : (10 : Nat) ^ 19 = 10000000000000000000 := by decide
    omega

theorem len27 : Ybad.prog.arrayLen 27 = 24 := by kernel_rfl
theorem elem27 : Ybad.prog.elem 27 = 5 := by kernel_rfl
theorem size5 (w : World) : (sizeOf 5).run Ybad.prog w = .ok 1 w := by kernel_rfl
theorem under27 : Ybad.prog.underlying 27 = some (.array (Ybad.prog.arrayLen 27) (Ybad.prog.elem 27)) := by kernel_rfl

/-- 'buf[m:]' of the array in block B. -/
theorem slice27 (B m : Nat) (hm : m < 24) (w : World) : (Instr.sliceAt 27 (.pointer (some ⟨B, 0, none⟩)) (some (.int .i64 (m : Int))) none none).run Ybad.prog w = .ok (.slice (some ⟨B, m, none⟩) (24 - m) (24 - m)) w := by
  rw [run_sliceAt_array_l w 27 ⟨B, 0, none⟩ under27 .i64 m (by omega) (by rw [len27]; omega), elem27, len27, size5]
  simp only [Result.andThen, slicedAt, Int.toNat_natCast, Nat.mul_one]
  rw [if_neg (by omega)]
  have hadd : (⟨B, 0, none⟩ : Addr).add m = ⟨B, m, none⟩ := by unfold Addr.add; split <;> simp_all
  rw [hadd]

/-- 'string(buf[m:])'. -/
theorem text28 {W : World} {B : Nat} {xs : List Int} {ds : List UInt8} (m : Nat) (h : Buf W B xs) (hx : xs.length = 24) (hm : m < 24) (hd : xs.drop m = nums ds) :
    (convert 28 9 (.slice (some ⟨B, m, none⟩) (24 - m) (24 - m))).run Ybad.prog W = .ok (.string ⟨ds.toArray⟩) W := by
  have h1 := run_convert_bytes_arg (P := Ybad.prog) W 28 5 Ybad.underlying28 Ybad.underlying5 B m (24 - m) (24 - m) (xs.drop m) (by simp; omega) (fun i hi => by
    rw [h.cell (m + i) (by omega)]
    simp [List.getD, List.getElem?_drop]) 9 Ybad.underlying9
  rw [h1, hd]
  congr 3
  unfold strOfNums nums
  congr 1
  congr 1
  rw [List.map_map]
  have : ((fun n : Int => UInt8.ofNat n.toNat) ∘ fun b : UInt8 => (b.toNat : Int)) = id := by funext b; simp
  rw [this, List.map_id]

theorem neg_wrap (n : Int) (h0 : -9223372036854775808 ≤ n) (h1 : n < 0) : IntKind.u64.wrap (-IntKind.u64.wrap n) = -n := by
  simp only [IntKind.wrap, IntKind.signed, IntKind.bits]
  simp
  omega

set_option maxRecDepth 100000 in
set_option maxHeartbeats 400000 in
theorem dec_pos (n : Int) (w : World) (h0 : 0 ≤ n) (h1 : n ≤ 9223372036854775807) :
    Calls Ybad.prog 6 #[.int .i64 n] w fun e w' => e = .returned (.string ⟨(Lib.itoa n).toArray⟩) ∧ Below w.heap.size w w' := by
  obtain ⟨U, hU⟩ : ∃ U : Nat, U = n.toNat := ⟨_, rfl⟩
  have HU : Hid (U = n.toNat) := hU
  have hU' : U ≤ 9223372036854775808 := by omega
  have HIT : Hid (Lib.itoa n = Lib.decDigits U) := by unfold Hid Lib.itoa; rw [if_neg (by omega), hU]
  clear hU
  go_enter Ybad.func6, Ybad.ntmps6
  go_wp2_with fail
  go_loopw [3, 6, 7] (fun u i k wr => ∃ (x : Int) (m : Nat) (ds : List UInt8) (xs : List Int), u = .int .u64 x ∧ i = .int .i64 m ∧ k = .int .i64 ds.length ∧ 0 ≤ x ∧ x ≤ 9223372036854775808 ∧ m + ds.length = 24 ∧ ds.length ≤ 18 ∧ xs.length = 24 ∧ Hid (Inv U x ds) ∧ Hid (Buf wr w.heap.size xs) ∧ Hid (xs.drop m = nums ds) ∧ Below w.heap.size w wr) (fun _ _ k _ => 21 - (intOf k).toNat)
  case atStart =>
    refine ⟨n, 24, [], List.replicate 24 0, rfl, rfl, rfl, h0, by omega, rfl, by simp, by simp, ⟨by rw [HU.out]; simp, by rw [HU.out]; simp⟩, ?_, rfl, (Below.refl _ _).alloc (Nat.le_refl _) _⟩
    exact heap_alloc_new _ _
  case round =>
    obtain ⟨x, m, ds, xs, rfl, rfl, rfl, g1, g2, g3, g4, g5, g6, g7, g8, g9⟩ := hrel
    obtain ⟨m', rfl⟩ : ∃ m', m = m' + 1 := ⟨m - 1, by omega⟩
    have hc := g7.out.cell m' (by omega)
    have hf := g7.out.free m'
    have hk : (ds.length : Int) < 21 := by omega
    have hm1 : (0 : Int) ≤ (m' : Int) := by omega
    have hm2 : (m' : Int) < 24 := by omega
    have HB2 : Hid (Buf (wr.setCell ⟨w.heap.size, m', none⟩ (.int .u8 (48 + x % 10))) w.heap.size (xs.set m' (48 + x % 10))) := g7.out.set m' _
    have HD2 : Hid ((xs.set m' (48 + x % 10)).drop m' = nums (UInt8.ofNat (48 + x.toNat % 10) :: ds)) := by
      unfold Hid
      rw [drop_set _ _ _ (by omega), g8.out]
      have := digit x g1
      simp [nums] at this ⊢
      exact this.symm
    by_cases hx : x < 10
    · have hq : (x / 10 == 0) = true := by simp; omega
      have HD : Hid (Lib.decDigits U = UInt8.ofNat (48 + x.toNat % 10) :: ds) := g6.out.last g1 hx
      have hsl := fun W => slice27 w.heap.size m' (by omega) W
      have htx := text28 m' HB2.out (by simpa using g5) (by omega) HD2.out
      rw [← HD.out, ← HIT.out] at htx
      obtain ⟨S, hS⟩ : ∃ S : ByteArray, S = ⟨(Lib.itoa n).toArray⟩ := ⟨_, rfl⟩
      rw [← hS] at htx
      have HS : Hid (S = ⟨(Lib.itoa n).toArray⟩) := hS
      clear hS
      go_wp2_with fail
      go_ret
      exact ⟨by rw [← HS.out]; rfl, g9.setCell (Nat.le_refl _) _⟩
    · have hq : (x / 10 == 0) = false := by simp; omega
      have HI : Hid (Inv U (x / 10) (UInt8.ofNat (48 + x.toNat % 10) :: ds)) := g6.out.step (by omega)
      have hlen := HI.out.len (by omega) hU'
      simp only [List.length_cons] at hlen
      go_wp2_with fail
      go_roundw
      case rel => exact ⟨x / 10, m', UInt8.ofNat (48 + x.toNat % 10) :: ds, xs.set m' (48 + x % 10), rfl, rfl, by go_num, by omega, by omega, by simp; omega, hlen, by simpa using g5, HI, HB2, HD2, g9.setCell (Nat.le_refl _) _⟩
      case measure => simp [intOf]; omega

set_option maxRecDepth 100000 in
set_option maxHeartbeats 400000 in
theorem dec_neg (n : Int) (w : World) (h0 : -9223372036854775808 ≤ n) (h1 : n < 0) :
    Calls Ybad.prog 6 #[.int .i64 n] w fun e w' => e = .returned (.string ⟨(Lib.itoa n).toArray⟩) ∧ Below w.heap.size w w' := by
  obtain ⟨U, hU⟩ : ∃ U : Nat, U = (-n).toNat := ⟨_, rfl⟩
  have HU : Hid (U = (-n).toNat) := hU
  have hU' : U ≤ 9223372036854775808 := by omega
  have HIT : Hid (Lib.itoa n = 45 :: Lib.decDigits U) := by
    unfold Hid Lib.itoa
    rw [if_pos (by omega), hU]
    congr 2
    omega
  have hneg : IntKind.u64.wrap (-IntKind.u64.wrap n) = -n := neg_wrap n h0 h1
  clear hU
  go_enter Ybad.func6, Ybad.ntmps6
  go_wp2_with fail
  go_loopw [3, 6, 7] (fun u i k wr => ∃ (x : Int) (m : Nat) (ds : List UInt8) (xs : List Int), u = .int .u64 x ∧ i = .int .i64 m ∧ k = .int .i64 ds.length ∧ 0 ≤ x ∧ x ≤ 9223372036854775808 ∧ m + ds.length = 24 ∧ ds.length ≤ 18 ∧ xs.length = 24 ∧ Hid (Inv U x ds) ∧ Hid (Buf wr w.heap.size xs) ∧ Hid (xs.drop m = nums ds) ∧ Below w.heap.size w wr) (fun _ _ k _ => 21 - (intOf k).toNat)
  case atStart =>
    refine ⟨-n, 24, [], List.replicate 24 0, rfl, rfl, rfl, by omega, by omega, rfl, by simp, by simp, ⟨by rw [HU.out]; simp, by rw [HU.out]; simp⟩, ?_, rfl, (Below.refl _ _).alloc (Nat.le_refl _) _⟩
    exact heap_alloc_new _ _
  case round =>
    obtain ⟨x, m, ds, xs, rfl, rfl, rfl, g1, g2, g3, g4, g5, g6, g7, g8, g9⟩ := hrel
    obtain ⟨m', rfl⟩ : ∃ m', m = m' + 1 := ⟨m - 1, by omega⟩
    have hc := g7.out.cell m' (by omega)
    have hf := g7.out.free m'
    have hk : (ds.length : Int) < 21 := by omega
    have hm1 : (0 : Int) ≤ (m' : Int) := by omega
    have hm2 : (m' : Int) < 24 := by omega
    have HB2 : Hid (Buf (wr.setCell ⟨w.heap.size, m', none⟩ (.int .u8 (48 + x % 10))) w.heap.size (xs.set m' (48 + x % 10))) := g7.out.set m' _
    have HD2 : Hid ((xs.set m' (48 + x % 10)).drop m' = nums (UInt8.ofNat (48 + x.toNat % 10) :: ds)) := by
      unfold Hid
      rw [drop_set _ _ _ (by omega), g8.out]
      have := digit x g1
      simp [nums] at this ⊢
      exact this.symm
    by_cases hx : x < 10
    · have hq : (x / 10 == 0) = true := by simp; omega
      have HD : Hid (Lib.decDigits U = UInt8.ofNat (48 + x.toNat % 10) :: ds) := g6.out.last g1 hx
      obtain ⟨m2, rfl⟩ : ∃ m2, m' = m2 + 1 := ⟨m' - 1, by omega⟩
      have hm3 : (0 : Int) ≤ (m2 : Int) := by omega
      have hm4 : (m2 : Int) < 24 := by omega
      have hc2 := g7.out.cell m2 (by omega)
      have hf2 := g7.out.free m2
      have HB3 : Hid (Buf ((wr.setCell ⟨w.heap.size, m2 + 1, none⟩ (.int .u8 (48 + x % 10))).setCell ⟨w.heap.size, m2, none⟩ (.int .u8 45)) w.heap.size ((xs.set (m2 + 1) (48 + x % 10)).set m2 45)) := HB2.out.set m2 _
      have HD3 : Hid (((xs.set (m2 + 1) (48 + x % 10)).set m2 45).drop m2 = nums (Lib.itoa n)) := by
        unfold Hid
        rw [drop_set _ _ _ (by simp; omega), HD2.out, HIT.out, HD.out]
        simp [nums]
      have hsl := fun W => slice27 w.heap.size m2 (by omega) W
      have htx := text28 m2 HB3.out (by simpa using g5) (by omega) HD3.out
      obtain ⟨S, hS⟩ : ∃ S : ByteArray, S = ⟨(Lib.itoa n).toArray⟩ := ⟨_, rfl⟩
      rw [← hS] at htx
      have HS : Hid (S = ⟨(Lib.itoa n).toArray⟩) := hS
      clear hS
      go_wp2_with fail
      go_ret
      exact ⟨by rw [← HS.out]; rfl, (g9.setCell (Nat.le_refl _) _).setCell (Nat.le_refl _) _⟩
    · have hq : (x / 10 == 0) = false := by simp; omega
      have HI : Hid (Inv U (x / 10) (UInt8.ofNat (48 + x.toNat % 10) :: ds)) := g6.out.step (by omega)
      have hlen := HI.out.len (by omega) hU'
      simp only [List.length_cons] at hlen
      go_wp2_with fail
      go_roundw
      case rel => exact ⟨x / 10, m', UInt8.ofNat (48 + x.toNat % 10) :: ds, xs.set m' (48 + x % 10), rfl, rfl, by go_num, by omega, by omega, by simp; omega, hlen, by simpa using g5, HI, HB2, HD2, g9.setCell (Nat.le_refl _) _⟩
      case measure => simp [intOf]; omega

end Go.Proofs.YbulklycDoor
