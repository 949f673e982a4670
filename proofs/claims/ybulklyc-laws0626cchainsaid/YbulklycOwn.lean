/-
  THE CONTRACT of the closure own (LawS0626CChain$1).
-/
import Derived.Test.YbulklycLib
namespace Go.Proofs.Ybulklyc
open Go.RowKit Chain
set_option linter.unusedVariables false

/-- The blocks of w, but for 'Bl' and the row of 'lv', are in w' as they were. -/
structure But (w w' : World) (Bl : Nat) (lv : Value) : Prop where
  os : w'.os = w.os
  tape : w'.tape = w.tape
  output : w'.output = w.output
  size : w.heap.size ≤ w'.heap.size
  block : ∀ k, k < w.heap.size → k ≠ Bl → lv.ownBlock ≠ some k → w'.heap[k]? = w.heap[k]?

theorem But.below {w w' w2 : World} {Bl : Nat} {lv : Value} (h : But w w' Bl lv) (hb : Below w'.heap.size w' w2) : But w w2 Bl lv :=
  ⟨hb.os.trans h.os, hb.tape.trans h.tape, hb.output.trans h.output, Nat.le_trans h.size hb.size, fun k h1 h2 h3 => (hb.block k (Nat.lt_of_lt_of_le h1 h.size)).trans (h.block k h1 h2 h3)⟩

/-- The log: the captured variable's block holds a slice that owns the numbers L, from block 'base' on. -/
def Log (w : World) (Bl base : Nat) (lv : Value) (L : List Int) : Prop :=
  w.heap[Bl]? = some (.cells #[lv] 28 (0, 0)) ∧ w.ownsRow base 26 1 lv L.length (L.map (Value.int .i64))

theorem owns_below {w w' : World} {base : Nat} {e : TypeId} {size : Nat} {v : Value} {n : Nat} {xs : List Value} (h : w.ownsRow base e size v n xs) (hb : Below w.heap.size w w') : w'.ownsRow base e size v n xs :=
  h.kept (row := none) ⟨hb.os, hb.tape, hb.output, hb.size, fun k hk _ => hb.block k hk⟩ (by cases v.ownBlock <;> simp)

theorem log_below {w w' : World} {Bl base : Nat} {lv : Value} {L : List Int} (h : Log w Bl base lv L) (hb : Below w.heap.size w w') : Log w' Bl base lv L :=
  ⟨by rw [hb.block Bl (lt_of_block h.1)]; exact h.1, owns_below h.2 hb⟩

theorem take_names (cs : List Int) (o : Int) (k : Nat) (h : k < cntN cs o) : (ownNames cs o).take (k + 1) = (ownNames cs o).take k ++ [nameB o (k : Nat)] := by
  have hl : k < (ownNames cs o).length := by rw [ownNames_length]; exact h
  rw [List.take_succ_eq_append_getElem hl]
  have := ownNames_get cs o k h
  rw [List.getElem?_eq_getElem hl] at this
  simp at this
  rw [this]

set_option maxRecDepth 100000 in
set_option maxHeartbeats 1000000 in
theorem own_any (o : Int) (ho : 0 ≤ o) (ho' : o ≤ 2000) (Bl Bc base : Nat) (lv : Value) (L : List Int) (ac : Option Addr) (lenc capc : Nat) (cs : List Int) (w : World) (B : Nat)
    (hlog : Log w Bl base lv L) (hL : L.length ≤ 5000) (hBl : Bl < base) (hbase : base ≤ w.heap.size) (hBc : Bc < base) (hne : Bc ≠ Bl)
    (hcnt : w.cell? ⟨Bc, 0, none⟩ = some (.slice ac lenc capc)) (hcl : lenc = cs.length) (hu : U8s w B ac lenc cs) (hB : B ≤ Bl) :
    Calls Yba.prog 5 #[.int .i64 o, .pointer (some ⟨Bl, 0, none⟩), .pointer (some ⟨Bc, 0, none⟩)] w fun e w' =>
      ∃ g, e = .returned (.slice (some ⟨g, 0, none⟩) (cntN cs o) (cntN cs o)) ∧ w.heap.size ≤ g ∧ g < w'.heap.size ∧ (∀ j s, (ownNames cs o)[j]? = some s → w'.cell? ⟨g, j, none⟩ = some (.string s)) ∧
        (∃ lv', Log w' Bl base lv' (L ++ [o])) ∧ But w w' Bl lv := by
  obtain ⟨i0, hi, hz0, hz1, hz2⟩ := info_parts info26
  obtain ⟨i9, hi9, hz09, hz19, hz29⟩ := info_parts info9
  have hc2 := cntN_le cs o
  obtain ⟨hvar, hown⟩ := hlog
  have cl := cell_of_one hvar
  have fl := free_of_one hvar
  have hBlw : Bl < w.heap.size := Nat.lt_of_lt_of_le hBl hbase
  have HV : Hid (w.heap[Bl]? = some (.cells #[lv] 28 (0, 0))) := hvar
  have HC : Hid (w.cell? ⟨Bc, 0, none⟩ = some (.slice ac lenc capc)) := hcnt
  have HU : Hid (U8s w B ac lenc cs) := hu
  have HL : Hid (lenc = cs.length) := hcl
  clear hvar hcnt hu hcl
  go_enter Yba.func5, Yba.ntmps5
  go_wp2_with (at_builtin; refine wpList_append_lies _ rfl (.tmp 8) (.tmp 10) 28 rfl base 26 i0 (.int .i64 0) 1 8 Yba.underlying28 hi hz0 hz1 hz2 rfl (by decide) lv L.length (L.map (Value.int .i64)) rfl (hown.alloc _) ⟨w.heap.size, 0, none⟩ 1 1 [.int .i64 o] rfl rfl (cell_one_new _ _ _) (ints_oneCell .i64 [o]) (by decide) (by unfold maxLen; omega) (by omega) (by simp; omega) (w.heap.size + 1) (by simp) ?_)
  intro g cap w1 hown1 hgrow hat hlt
  have hg1 : w.grownBy w1 lv.ownBlock := (World.grownBy_alloc w _ _).trans hgrow
  have hB1 : Below base w w1 := (Below.refl _ _).grown hg1 hbase (fun k hk => (hown.lt k hk).1)
  have hgb : base ≤ g := (hown1.lt g rfl).1
  have hv1 : w1.heap[Bl]? = some (.cells #[lv] 28 (0, 0)) := by rw [hB1.block Bl hBl]; exact HV.out
  -- the world behind the store, under a name of its own
  obtain ⟨w2, hw2⟩ : ∃ w2, w2 = w1.setCell ⟨Bl, 0, none⟩ (.slice (some ⟨g, 0, none⟩) (L.length + 1) cap) := ⟨_, rfl⟩
  have hlog2 : Log w2 Bl base (.slice (some ⟨g, 0, none⟩) (L.length + 1) cap) (L ++ [o]) := by
    rw [hw2]
    refine ⟨one_setCell hv1, ?_⟩
    have := ownsRow_setCell_below hown1 (a := ⟨Bl, 0, none⟩) (by exact hBl) (.slice (some ⟨g, 0, none⟩) (L.length + 1) cap)
    simpa using this
  have hbut2 : But w w2 Bl lv := by
    rw [hw2]
    refine ⟨hg1.os, hg1.tape, hg1.output, by simpa [World.setCell] using hg1.size, fun k h1 h2 h3 => ?_⟩
    rw [Below.heap_setCell _ _ _ _ (by exact h2)]
    exact hg1.block k h1 (fun e => h3 e.symm)
  have cc2 : w2.cell? ⟨Bc, 0, none⟩ = some (.slice ac lenc capc) := by
    rw [World.cell?_of_block (hbut2.block Bc (Nat.lt_of_lt_of_le hBc hbase) hne (fun e => by have := (hown.lt Bc e).1; omega))]; exact HC.out
  have hu2 : U8s w2 B ac lenc cs := HU.out.below (fun k hk => hbut2.block k (by omega) (by omega) (fun e => by have := (hown.lt k e).1; omega))
  have cc1 : w1.cell? ⟨Bc, 0, none⟩ = some (.slice ac lenc capc) := by rw [hB1.cell (p := ⟨Bc, 0, none⟩) (by exact hBc)]; exact HC.out
  have cl1 := cell_of_one hv1
  have fl1 := free_of_one hv1
  have HW : Hid (w1.setCell ⟨Bl, 0, none⟩ (.slice (some ⟨g, 0, none⟩) (L.length + 1) cap) = w2) := hw2.symm
  have HLOG : Hid (Log w2 Bl base (.slice (some ⟨g, 0, none⟩) (L.length + 1) cap) (L ++ [o])) := hlog2
  have HBUT : Hid (But w w2 Bl lv) := hbut2
  have HU2 : Hid (U8s w2 B ac lenc cs) := hu2
  clear hw2 hlog2 hbut2 hu2 hown1 hgrow hat hg1 hB1 hown hv1 hlt
  go_wp2_with fail
  rw [HW.out]
  clear cl1 fl1 cc1 cl fl cc2
  refine (count_int ac lenc capc cs o w2 B HL.out ho (by omega) HU2.out).mono ?_
  rintro e w3 ⟨rfl, hw3⟩
  subst hw3
  go_wp2_with (at_make; refine wpList_make_own _ rfl _ _ 22 rfl w3.heap.size 9 i9 (.string ⟨#[]⟩) 1 Yba.underlying22 hi9 hz09 hz19 _ _ _ (cntN cs o) rfl rfl rfl (by rw [hz29]; omega) (by unfold maxLen; omega) (Nat.le_refl _) ?_)
  intro w4 hown4 hgrow4
  have hB4 : Below w3.heap.size w3 w4 := (Below.refl _ _).grown hgrow4 (Nat.le_refl _) (fun k hk => by cases hk)
  have hs4 : w3.heap.size < w4.heap.size := (hown4.lt _ rfl).2
  clear hgrow4
  have HO4 : Hid (w4.ownsRow w3.heap.size 9 1 (.slice (some ⟨w3.heap.size, 0, none⟩) 0 (cntN cs o)) 0 []) := hown4
  clear hown4
  go_wp2_with fail
  go_loopw [6, 7] (fun v i wr => ∃ k : Nat, k ≤ cntN cs o ∧ i = .int .i64 k ∧ v = .slice (some ⟨w3.heap.size, 0, none⟩) k (cntN cs o) ∧ Hid (wr.ownsRow w3.heap.size 9 1 (.slice (some ⟨w3.heap.size, 0, none⟩) k (cntN cs o)) k (((ownNames cs o).take k).map Value.string)) ∧ Below w3.heap.size w3 wr) (fun _ i _ => cntN cs o - (intOf i).toNat)
  case atStart => exact ⟨0, Nat.zero_le _, rfl, rfl, HO4, hB4⟩
  case round =>
    obtain ⟨k, hk, rfl, rfl, r1, r2⟩ := hrel
    by_cases hlt : k < cntN cs o
    · have hk1 : (0 : Int) ≤ (k : Int) := by omega
      have hk2 : (k : Int) < (cntN cs o : Int) := by omega
      go_wp2_with fail
      refine (name_any o k _ ho (by omega) (by omega) (by omega)).mono ?_
      rintro e w5 ⟨rfl, hb5⟩
      have ho5 := owns_below r1.out hb5
      go_wp2_with (at_builtin; refine wpList_append_fits _ rfl (.tmp 22) (.tmp 26) 22 rfl w3.heap.size 9 i9 1 Yba.underlying22 hi9 hz19 w3.heap.size k (cntN cs o) _ rfl (ho5.alloc _) ⟨w5.heap.size, 0, none⟩ 1 1 [.string (nameB o k)] rfl rfl (cell_one_new _ _ _) (strs_one [nameB o k]) (by omega) ?_)
      intro w6 ho6 hg6
      have hb6 : Below w3.heap.size w3 w6 := ((r2.trans (hb5.mono r2.size)).alloc (Nat.le_trans r2.size hb5.size) _).grown hg6 (by have := r2.size; have := hb5.size; simp; omega) (fun k hk => by cases hk; exact Nat.le_refl _)
      have HO6 : Hid (w6.ownsRow w3.heap.size 9 1 (.slice (some ⟨w3.heap.size, 0, none⟩) (k + 1) (cntN cs o)) (k + 1) (((ownNames cs o).take (k + 1)).map Value.string)) := by
        unfold Hid
        rw [take_names cs o k hlt, List.map_append, List.map_take]
        exact ho6
      clear ho6 hg6 ho5 r1
      go_wp2_with fail
      go_roundw
      case rel => exact ⟨k + 1, by omega, by go_num, rfl, HO6, hb6⟩
      case measure => simp [intOf]; omega
    · obtain rfl : k = cntN cs o := by omega
      go_wp2_with fail
      go_ret
      refine ⟨w3.heap.size, rfl, HBUT.out.size, (r1.out.lt _ rfl).2, ?_, ⟨_, log_below HLOG.out r2⟩, HBUT.out.below r2⟩
      intro j s hj
      have h := r1.out.cells (g := w3.heap.size) rfl j (.string s) (by rw [List.getElem?_map, List.take_of_length_le (by rw [ownNames_length]; exact Nat.le_refl _), hj]; rfl)
      have hadd : (⟨w3.heap.size, 0, none⟩ : Addr).add j = ⟨w3.heap.size, j, none⟩ := by unfold Addr.add; split <;> simp_all
      rw [hadd] at h
      exact h
end Go.Proofs.Ybulklyc
