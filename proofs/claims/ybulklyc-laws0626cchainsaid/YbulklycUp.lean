/-
  THE CONTRACT of (*ancestryWalk).appendPropertyNames with the closure own, over the map that the law has filled.
-/
import Derived.Test.YbulklycInv
namespace Go.Proofs.Ybulklyc
open Go.RowKit Chain Go.Maps
set_option linter.unusedVariables false

theorem names_one (cs : List Int) (o : Int) : ∀ u ∈ (ownNames cs o).map Value.string, u.oneCell' = true := strs_one _

/-- own(o) while the names are gathered, and the way back to 'Inv' behind the append of what it gave. -/
theorem own_inv {base Bl Bc B : Nat} {cs : List Int} {pre : List ByteArray} {w wr : World} {v : Value} {done : List Int} {ac : Option Addr} {lenc capc : Nat} (o : Int) (ho : 0 ≤ o) (ho' : o ≤ 2000)
    (hi : Inv base Bl cs pre w wr v done) (hd : done.length ≤ 5000) (hBl : Bl < base) (hBc : Bc < base) (hbase : base ≤ w.heap.size) (hne : Bc ≠ Bl) (hB : B ≤ Bl)
    (hcnt : w.cell? ⟨Bc, 0, none⟩ = some (.slice ac lenc capc)) (hcl : lenc = cs.length) (hu : U8s w B ac lenc cs) :
    Calls Yba.prog 5 #[.int .i64 o, .pointer (some ⟨Bl, 0, none⟩), .pointer (some ⟨Bc, 0, none⟩)] wr fun e w' =>
      ∃ (g : Nat) (N : List ByteArray), e = .returned (.slice (some ⟨g, 0, none⟩) (cntN cs o) (cntN cs o)) ∧ base ≤ w'.heap.size ∧ N.length ≤ pre.length + 2 * done.length ∧
        Hid (w'.ownsRow base 9 1 v N.length (N.map Value.string)) ∧
        Hid (∀ j u, ((ownNames cs o).map Value.string)[j]? = some u → w'.cell? ((⟨g, 0, none⟩ : Addr).add j) = some u) ∧
        Hid (∀ v' w2, w2.ownsRow base 9 1 v' (N.length + cntN cs o) (N.map Value.string ++ (ownNames cs o).map Value.string) → w'.grownBy w2 v.ownBlock → Inv base Bl cs pre w w2 v' (done ++ [o])) := by
  have hi' := hi
  obtain ⟨h1, ⟨lv, hl⟩, h3⟩ := hi
  have hb1 : base ≤ wr.heap.size := Nat.le_trans hbase h3.size
  refine (own_any o ho ho' Bl Bc base lv done ac lenc capc cs wr B hl hd hBl hb1 hBc hne ?_ hcl ?_ hB).mono ?_
  · rw [World.cell?_of_block (h3.block Bc hBc hne)]; exact hcnt
  · exact hu.below (fun k hk => h3.block k (by omega) (by omega))
  · rintro e w' ⟨g, rfl, hg1, hg2, hcell, ⟨lv', hl'⟩, hbut⟩
    refine ⟨g, pre ++ done.flatMap (ownNames cs), rfl, Nat.le_trans hb1 hbut.size, by have := flat_le cs done; rw [List.length_append]; omega, owns_behind h1 hl.2 hbut hBl, ?_, fun v' w2 ho2 hg => hi'.step hl hbut hl' hBl hbase ho2 hg⟩
    intro j u hj
    rw [List.getElem?_map] at hj
    obtain ⟨s, hs, rfl⟩ := Option.map_eq_some_iff.1 hj
    have hadd : (⟨g, 0, none⟩ : Addr).add j = ⟨g, j, none⟩ := by unfold Addr.add; split <;> simp_all
    rw [hadd]
    exact hcell j s hs

set_option maxRecDepth 100000 in
set_option maxHeartbeats 1000000 in
theorem up_any (Ba Bm Bl Bc B base K : Nat) (pre : List ByteArray) (us cs : List Int) (ac : Option Addr) (lenc capc : Nat) (v0 : Value) (s : Int) (w : World)
    (hs : 0 ≤ s) (hsK : s < K) (hK : K ≤ 1025) (hpre : pre.length ≤ 1024)
    (hown : w.ownsRow base 9 1 v0 pre.length (pre.map Value.string)) (hlog : Log w Bl base (.slice none 0 0) [])
    (hBl : Bl < base) (hBc : Bc < base) (hBa : Ba < base) (hBm : Bm < base) (hbase : base ≤ w.heap.size) (hne : Bc ≠ Bl) (hne2 : Ba ≠ Bl) (hne3 : Bm ≠ Bl) (hB : B ≤ Bl)
    (hcnt : w.cell? ⟨Bc, 0, none⟩ = some (.slice ac lenc capc)) (hcl : lenc = cs.length) (hu : U8s w B ac lenc cs)
    (hab : w.cell? ⟨Ba, 3, none⟩ = some (.map (some Bm))) (hmap : MapIs w Bm K us) :
    Calls Yba.prog 8 #[.pointer (some ⟨Ba, 0, none⟩), v0, .int .i64 s, .func (Fn.func 5) #[] #[.pointer (some ⟨Bl, 0, none⟩), .pointer (some ⟨Bc, 0, none⟩)]] w fun e w' =>
      ∃ v, e = .returned v ∧ Inv base Bl cs pre w w' v (chainF us K s) := by
  obtain ⟨i9, hi9, hz09, hz19, hz29⟩ := info_parts info9
  have HCNT : Hid (w.cell? ⟨Bc, 0, none⟩ = some (.slice ac lenc capc)) := hcnt
  have HCL : Hid (lenc = cs.length) := hcl
  have HU : Hid (U8s w B ac lenc cs) := hu
  have HAB : Hid (w.cell? ⟨Ba, 3, none⟩ = some (.map (some Bm))) := hab
  have HM : Hid (MapIs w Bm K us) := hmap
  have HI : Hid (Inv base Bl cs pre w w v0 []) := ⟨by simpa using hown, ⟨_, hlog⟩, ButB.refl _ _ _⟩
  clear hcnt hcl hu hab hmap hown hlog
  go_enter Yba.func8, Yba.ntmps8
  go_wp2_with fail
  refine (own_inv (B := B) s hs (by omega) HI.out (by simp) hBl hBc hbase hne hB HCNT.out HCL.out HU.out).mono ?_
  rintro e w1 ⟨g, N, rfl, hb1, hN, ho1, hc1, hway⟩
  simp only [List.length_nil, Nat.mul_zero, Nat.add_zero] at hN
  have hc2 := cntN_le cs s
  go_wp2_with (at_builtin; refine wpList_append_own _ rfl (.tmp 10) (.tmp 13) 22 rfl base 9 i9 (.string ⟨#[]⟩) 1 16 Yba.underlying22 hi9 hz09 hz19 hz29 rfl (by decide) v0 _ _ rfl ho1.out ⟨g, 0, none⟩ (cntN cs s) (cntN cs s) ((ownNames cs s).map Value.string) rfl (by simp [ownNames_length]) hc1.out (names_one cs s) (by unfold maxLen; omega) (by omega) hb1 ?_)
  intro v1 w2 ho2 hg2 _
  have HI2 : Hid (Inv base Bl cs pre w w2 v1 [s]) := hway.out v1 w2 ho2 hg2
  have ca2 : w2.cell? ⟨Ba, 3, none⟩ = some (.map (some Bm)) := by rw [World.cell?_of_block (HI2.out.2.2.block Ba hBa hne2)]; exact HAB.out
  have hlk := (HM.out.block (w' := w2) (HI2.out.2.2.block Bm hBm hne3)).look s hs hsK (by omega)
  clear ho2 hg2 ho1 hc1 hway HI
  obtain ⟨st, hst⟩ : ∃ st, st = stepZ us s := ⟨_, rfl⟩
  rw [← hst] at hlk
  have hb := stepZ_lt us s hs
  rw [← hst] at hb
  have HC : Hid (chainF us K s = s :: chainF us (K - 1) st) := by
    obtain ⟨f', hf, hch⟩ := chainF_pos us K s hs hsK
    unfold Hid
    rw [hch, hst, hf]; rfl
  have HST : Hid (st = stepZ us s) := hst
  clear hst
  go_wp2_with fail
  go_loopw [1, 9] (fun v i wr => ∃ (done : List Int) (f : Nat) (d : Int), i = .int .i64 d ∧ -1 ≤ d ∧ d < f ∧ d < K ∧ (done.length : Int) + d ≤ K ∧ Hid (done ++ chainF us f d = chainF us K s) ∧ Hid (Inv base Bl cs pre w wr v done)) (fun _ i _ => (intOf i + 1).toNat)
  case atStart => exact ⟨[s], K - 1, st, rfl, hb.1, by omega, by omega, by simp; omega, by unfold Hid; rw [HC.out]; rfl, HI2⟩
  case round =>
    obtain ⟨done, f, d, rfl, r1, r2, r3, r4, r5, r6⟩ := hrel
    by_cases hd : 0 ≤ d
    · go_wp2_with fail
      refine (own_inv (B := B) d hd (by omega) r6.out (by omega) hBl hBc hbase hne hB HCNT.out HCL.out HU.out).mono ?_
      rintro e w3 ⟨g3, N3, rfl, hb3, hN3, ho3, hc3, hway3⟩
      have hcd := cntN_le cs d
      clear hlk ca2
      go_wp2_with (at_builtin; refine wpList_append_own _ rfl (.tmp 29) (.tmp 32) 22 rfl base 9 i9 (.string ⟨#[]⟩) 1 16 Yba.underlying22 hi9 hz09 hz19 hz29 rfl (by decide) _ _ _ rfl ho3.out ⟨g3, 0, none⟩ (cntN cs d) (cntN cs d) ((ownNames cs d).map Value.string) rfl (by simp [ownNames_length]) hc3.out (names_one cs d) (by unfold maxLen; omega) (by omega) hb3 ?_)
      intro v4 w4 ho4 hg4 _
      have HI4 : Hid (Inv base Bl cs pre w w4 v4 (done ++ [d])) := hway3.out v4 w4 ho4 hg4
      have ca4 : w4.cell? ⟨Ba, 3, none⟩ = some (.map (some Bm)) := by rw [World.cell?_of_block (HI4.out.2.2.block Ba hBa hne2)]; exact HAB.out
      have hlk4 := (HM.out.block (w' := w4) (HI4.out.2.2.block Bm hBm hne3)).look d hd r3 (by omega)
      clear ho4 hg4 ho3 hc3 hway3
      obtain ⟨sd, hsd⟩ : ∃ sd, sd = stepZ us d := ⟨_, rfl⟩
      rw [← hsd] at hlk4
      have hbd := stepZ_lt us d hd
      rw [← hsd] at hbd
      obtain ⟨f', hf, hch⟩ := chainF_pos us f d hd r2
      have HC4 : Hid ((done ++ [d]) ++ chainF us f' sd = chainF us K s) := by
        have h5 := r5.out
        unfold Hid
        rw [← h5, hch, hsd]; simp
      have hf' : (f : Int) = f' + 1 := by omega
      clear hf hch hsd
      have HF : Hid ((f : Int) = f' + 1) := hf'
      clear hf'
      go_wp2_with fail
      go_roundw
      case rel => exact ⟨done ++ [d], f', sd, rfl, hbd.1, by have := HF.out; omega, by omega, by simp; omega, HC4, HI4⟩
      case measure => simp [intOf]; omega
    · obtain rfl : d = -1 := by omega
      go_wp2_with fail
      go_ret
      have h5 := r5.out
      rw [chainF_neg, List.append_nil] at h5
      refine ⟨_, rfl, ?_⟩
      rw [← h5]
      exact r6.out
end Go.Proofs.Ybulklyc
