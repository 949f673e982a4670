/-
  THE WALK of mooring.LawS0626CChain out of the contracts: the map is filled, the names are gathered by appendPropertyNames, gathered once more by the law's own loop, and compared.
-/
import Derived.Test.YbulklycUp
namespace Go.Proofs.Ybulklyc
open Go.RowKit Chain Go.Maps
set_option linter.unusedVariables false

theorem make25 (n : Int) (w : World) : (Instr.makeMap 25 (some (.int .i64 n))).run Yba.prog w = .ok (.map (some w.heap.size)) (w.alloc (.map #[] 0)) := by kernel_rfl

theorem mapIs_made (w : World) (us : List Int) : MapIs (w.alloc (.map #[] 0)) w.heap.size 0 us :=
  ⟨0, .map [], World.ownsMap_made w _ _ _, Nat.le_refl _, isMap_empty, fun i hi => by omega⟩

theorem stepZ_wf (us : List Int) (i : Int) (h : 0 ≤ i) (h' : i ≤ 100000) : (Lit.int .i64 (stepZ us i)).wf = true := by
  have := stepZ_lt us i h
  exact WalkArith.wf_i64 (by omega)

/-- One store more. -/
theorem mapIs_put {w w' : World} {Bm k n : Nat} {us : List Int} {D : DataW Unit} (hn : n ≤ k) (hD : IsMap D) (hat : ∀ i : Nat, i < k → D.atKey (.int .i64 i) (.lit (.int .i64 0)) = .lit (.int .i64 (stepZ us i)))
    (hown : w'.ownsMap Yba.prog 26 (plainElem Yba.prog 26) Bm (n + 1) (D.put (.int .i64 k) (.lit (.int .i64 (stepZ us k))))) : MapIs w' Bm (k + 1) us := by
  refine ⟨n + 1, _, hown, by omega, hD.put _ _, ?_⟩
  intro i hi
  by_cases h : i = k
  · subst h
    exact atKey_put_same hD (by simp [WideAt.IsKeyLit]) _ _
  · rw [atKey_put_other (by simp; omega)]
    exact hat i (by omega)

theorem strs_below {w w' : World} {B : Nat} {a : Option Addr} {len cap : Nat} {ss : List ByteArray} (h : StrsAre w a len cap ss) (hB : ∀ ad, a = some ad → 0 < len → ad.block < B) (hb : ∀ k, k < B → w'.heap[k]? = w.heap[k]?) : StrsAre w' a len cap ss := by
  refine ⟨h.1, ?_⟩
  rcases h.2 with h0 | ⟨ad, rfl, hc⟩
  · exact .inl h0
  · refine .inr ⟨ad, rfl, fun j s hj => ?_⟩
    have hjl : j < len := by rw [← h.1]; exact (List.getElem?_eq_some_iff.1 hj).1
    have hbk : (ad.add j).block = ad.block := by unfold Addr.add; split <;> rfl
    rw [World.cell?_of_block (w := w) (by rw [hbk]; exact hb _ (hB ad rfl (by omega)))]
    exact hc j s hj

theorem three_below (w : World) (o1 o2 o3 : Obj) : Below w.heap.size w (((w.alloc o1).alloc o2).alloc o3) :=
  (((Below.refl _ w).alloc (Nat.le_refl _) _).alloc (by simp) _).alloc (by simp; omega) _

theorem cell_third (w : World) (o1 o2 : Obj) (c : Array Value) (t : TypeId) (i : Nat) : (((w.alloc o1).alloc o2).alloc (.cells c t)).cell? ⟨w.heap.size + 1 + 1, i, none⟩ = c[i]? := by
  have h := heap_alloc_new ((w.alloc o1).alloc o2) (.cells c t)
  simp only [World.size_alloc] at h
  simp only [World.cell?, h]
  rfl

/-- The law's own gathering: what 'want' and 'wantLog' own, from block 'base' on. -/
def Want (base : Nat) (cs : List Int) (pre : List ByteArray) (wr : World) (vw vl : Value) (done : List Int) : Prop :=
  wr.ownsRow base 9 1 vw (pre ++ done.flatMap (ownNames cs)).length ((pre ++ done.flatMap (ownNames cs)).map Value.string) ∧ wr.ownsRow base 26 1 vl done.length (done.map (Value.int .i64))

theorem owns_apart' {w : World} {b1 b2 : Nat} {v1 v2 : Value} {n1 n2 : Nat} {x1 x2 : List Value} (h1 : w.ownsRow b1 9 1 v1 n1 x1) (h2 : w.ownsRow b2 26 1 v2 n2 x2) (k : Nat) (hk : v2.ownBlock = some k) : v1.ownBlock ≠ some k :=
  fun h => owns_apart h1 h2 k h hk

/-- A row of strings stays while a row of numbers grows. -/
theorem owns9_grown {w w' : World} {b1 b2 : Nat} {v1 v2 : Value} {n1 n2 : Nat} {x1 x2 : List Value} (h1 : w.ownsRow b1 9 1 v1 n1 x1) (h2 : w.ownsRow b2 26 1 v2 n2 x2) (hg : w.grownBy w' v2.ownBlock) : w'.ownsRow b1 9 1 v1 n1 x1 :=
  owns_block h1 (fun k hk => hg.block k (h1.lt k hk).2 (fun e => owns_apart h1 h2 k hk e.symm))
/-- A row of numbers stays while a row of strings grows. -/
theorem owns26_grown {w w' : World} {b1 b2 : Nat} {v1 v2 : Value} {n1 n2 : Nat} {x1 x2 : List Value} (h1 : w.ownsRow b1 9 1 v1 n1 x1) (h2 : w.ownsRow b2 26 1 v2 n2 x2) (hg : w.grownBy w' v1.ownBlock) : w'.ownsRow b2 26 1 v2 n2 x2 :=
  owns_block h2 (fun k hk => hg.block k (h2.lt k hk).2 (fun e => owns_apart h1 h2 k e.symm hk))

theorem reads_strs {w : World} {base : Nat} {v : Value} {n : Nat} {ss : List ByteArray} (h : w.ownsRow base 9 1 v n (ss.map Value.string)) : Reads w v n (fun j => .string (ss.getD j ⟨#[]⟩)) := by
  have h1 := reads_of_owns h (.string ⟨#[]⟩)
  have e : (fun j => (ss.map Value.string).getD j (.string ⟨#[]⟩)) = fun j => Value.string (ss.getD j ⟨#[]⟩) := by funext j; simp [List.getD, List.getElem?_map]
  rw [e] at h1
  exact h1
theorem reads_ints {w : World} {base : Nat} {v : Value} {n : Nat} {ss : List Int} (h : w.ownsRow base 26 1 v n (ss.map (Value.int .i64))) : Reads w v n (fun j => .int .i64 (ss.getD j 0)) := by
  have h1 := reads_of_owns h (.int .i64 0)
  have e : (fun j => (ss.map (Value.int .i64)).getD j (.int .i64 0)) = fun j => Value.int .i64 (ss.getD j 0) := by funext j; simp [List.getD, List.getElem?_map]
  rw [e] at h1
  exact h1
theorem reads_drewN {w : World} {v : Value} {n : Nat} {V : Nat → Value} (h : Reads w v n V) (q : Nat) : Reads (w.drewN q) v n V := by
  obtain ⟨a, c, h1, h2⟩ := h
  refine ⟨a, c, h1, fun j hj => ?_⟩
  obtain ⟨b, off, h3, h4⟩ := h2 j hj
  exact ⟨b, off, h3, by simpa using h4⟩

/-- The state ahead of appendPropertyNames: three blocks laid behind wr, then the clone of the prefix. -/
theorem ready {w wr w2 : World} {a2 : Option Addr} {len2 cap2 K : Nat} {us : List Int}
    (r1 : MapIs wr (w.heap.size + 1) K us) (r2 : Below (w.heap.size + 1) (w.alloc (.cells #[.slice a2 len2 cap2] 23)) wr) (r3 : w.heap.size + 2 ≤ wr.heap.size)
    (hb2 : Below (wr.heap.size + 1 + 1 + 1) (((wr.alloc (.cells #[.slice none 0 0] 28)).alloc (.map #[] 0)).alloc (.cells #[.nilFunc, .nilFunc, .map (some (wr.heap.size + 1)), .map (some (w.heap.size + 1))] 36)) w2) :
    Log w2 wr.heap.size (wr.heap.size + 1 + 1 + 1) (.slice none 0 0) [] ∧ wr.heap.size + 1 + 1 + 1 ≤ w2.heap.size ∧ w2.cell? ⟨w.heap.size, 0, none⟩ = some (.slice a2 len2 cap2) ∧
      w2.cell? ⟨wr.heap.size + 1 + 1, 3, none⟩ = some (.map (some (w.heap.size + 1))) ∧ MapIs w2 (w.heap.size + 1) K us ∧ Below w.heap.size w w2 := by
  have h3 := three_below wr (.cells #[.slice none 0 0] 28) (.map #[] 0) (.cells #[.nilFunc, .nilFunc, .map (some (wr.heap.size + 1)), .map (some (w.heap.size + 1))] 36)
  have hbl : ∀ k, k < wr.heap.size → w2.heap[k]? = wr.heap[k]? := fun k hk => (hb2.block k (by omega)).trans (h3.block k hk)
  have hsz := hb2.size
  simp only [World.size_alloc] at hsz
  refine ⟨⟨?_, World.ownsRow_nil _ _ _ _⟩, hsz, ?_, ?_, r1.block (hbl _ (by omega)), ?_⟩
  · rw [hb2.block wr.heap.size (by omega)]
    show (((wr.heap.push _).push _).push _)[wr.heap.size]? = _
    simp only [Array.getElem?_push, Array.size_push]
    rw [if_neg (by omega), if_neg (by omega), if_pos trivial]
  · rw [World.cell?_of_block (w := w.alloc (.cells #[.slice a2 len2 cap2] 23)) (a := ⟨w.heap.size, 0, none⟩) ((hbl w.heap.size (by omega)).trans (r2.block w.heap.size (by omega)))]
    simp
  · rw [hb2.cell (p := ⟨wr.heap.size + 1 + 1, 3, none⟩) (by show wr.heap.size + 1 + 1 < _; omega)]
    rw [cell_third]; rfl
  · have hB : Below w.heap.size w wr := ((Below.refl _ _).alloc (Nat.le_refl _) _).trans (r2.mono (by omega))
    exact (hB.trans (h3.mono (by omega))).trans (hb2.mono (by omega))

set_option maxRecDepth 100000 in
theorem walk_long (a0 a1 a2 : Option Addr) (len0 cap0 len1 cap1 len2 cap2 : Nat) (sel : Int) (w : World) (hl : 1024 < len0 ∨ 1024 < len1 ∨ 1024 < len2) :
    Calls Yba.prog 3 #[.slice a0 len0 cap0, .slice a1 len1 cap1, .slice a2 len2 cap2, .int .u16 sel] w fun e w' => e = .returned (.bool true) ∧ Below w.heap.size w w' := by
  by_cases h0 : 1024 < len0
  · have h0' : (1024 : Int) < (len0 : Int) := by omega
    go_enter Yba.func3, Yba.ntmps3
    go_wp2
    go_ret
    exact ⟨rfl, (Below.refl _ _).alloc (Nat.le_refl _) _⟩
  · have h0' : ¬ (1024 : Int) < (len0 : Int) := by omega
    by_cases h1 : 1024 < len1
    · have h1' : (1024 : Int) < (len1 : Int) := by omega
      go_enter Yba.func3, Yba.ntmps3
      go_wp2
      go_ret
      exact ⟨rfl, (Below.refl _ _).alloc (Nat.le_refl _) _⟩
    · have h1' : ¬ (1024 : Int) < (len1 : Int) := by omega
      have h2' : (1024 : Int) < (len2 : Int) := by omega
      clear hl
      go_enter Yba.func3, Yba.ntmps3
      go_wp2
      go_ret
      exact ⟨rfl, (Below.refl _ _).alloc (Nat.le_refl _) _⟩

set_option maxRecDepth 100000 in
set_option maxHeartbeats 2000000 in
theorem walk_short (a0 a1 a2 : Option Addr) (len0 cap0 len1 cap1 len2 cap2 : Nat) (sel : Int) (pre : List ByteArray) (us cs : List Int) (w : World)
    (hl0 : len0 ≤ 1024) (hl1 : len1 ≤ 1024) (hl2 : len2 ≤ 1024) (hsel : 0 ≤ sel) (hsel' : sel ≤ 65535)
    (hpre : StrsAre w a0 len0 cap0 pre) (hpreB : ∀ ad, a0 = some ad → 0 < len0 → ad.block < w.heap.size) (hus : U8s w w.heap.size a1 len1 us) (hul : len1 = us.length) (hcs : U8s w w.heap.size a2 len2 cs) (hcl : len2 = cs.length) :
    Calls Yba.prog 3 #[.slice a0 len0 cap0, .slice a1 len1 cap1, .slice a2 len2 cap2, .int .u16 sel] w fun e w' => e = .returned (.bool true) ∧ Below w.heap.size w w' := by
  obtain ⟨i9, hi9, hz09, hz19, hz29⟩ := info_parts info9
  obtain ⟨i0, hi, hz0, hz1, hz2⟩ := info_parts info26
  have hmf : ∀ (fn : Fn) (first cap : Array Value) (w : World), (Instr.makeFunc fn first cap).run Yba.prog w = .ok (.func fn first cap) w := fun _ _ _ _ => rfl
  have hmm := @run_makeMap Yba.prog
  have hm25 := make25
  have HP : Hid (StrsAre w a0 len0 cap0 pre) := hpre
  have HPB : Hid (∀ ad, a0 = some ad → 0 < len0 → ad.block < w.heap.size) := hpreB
  have HUS : Hid (U8s w w.heap.size a1 len1 us) := hus
  have HCS : Hid (U8s w w.heap.size a2 len2 cs) := hcs
  have HUL : Hid (len1 = us.length) := hul
  have HCL : Hid (len2 = cs.length) := hcl
  clear hpre hpreB hus hcs hul hcl
  have h0' : (len0 : Int) ≤ 1024 := by omega
  have h1' : (len1 : Int) ≤ 1024 := by omega
  have h2' : (len2 : Int) ≤ 1024 := by omega
  go_enter Yba.func3, Yba.ntmps3
  go_wp2_with fail
  go_loopw [11] (fun i wr => ∃ k : Nat, k ≤ len1 + 1 ∧ i = .int .i64 k ∧ Hid (MapIs wr (w.heap.size + 1) k us) ∧ Below (w.heap.size + 1) (w.alloc (.cells #[.slice a2 len2 cap2] 23)) wr ∧ w.heap.size + 2 ≤ wr.heap.size) (fun i _ => len1 + 1 - (intOf i).toNat)
  case atStart =>
    refine ⟨0, Nat.zero_le _, rfl, ?_, (Below.refl _ _).alloc (by simp) _, by simp⟩
    have h := mapIs_made (w.alloc (.cells #[.slice a2 len2 cap2] 23)) us
    simpa [Hid] using h
  case round =>
    obtain ⟨k, hk, rfl, r1, r2, r3⟩ := hrel
    have hB : Below w.heap.size w wr := ((Below.refl _ _).alloc (Nat.le_refl _) _).trans (r2.mono (by omega))
    by_cases hlt : k < len1 + 1
    · have hk0 : (0 : Int) ≤ (k : Int) := by omega
      have hk1 : (k : Int) < (len1 : Int) + 1 := by omega
      obtain ⟨n, D, hown, hn, hD, hat⟩ := r1.out
      go_wp2_with fail
      refine (step_int a1 len1 cap1 us k wr w.heap.size HUL.out hk0 (by omega) (HUS.out.below hB.block)).mono ?_
      rintro e w1 ⟨rfl, hw1⟩
      subst hw1
      have HAT : Hid (∀ i : Nat, i < k → D.atKey (.int .i64 i) (.lit (.int .i64 0)) = .lit (.int .i64 (stepZ us i))) := hat
      clear hat r1
      go_wp2_with (at_mapUpdate; refine wpList_mapUpdate_own _ rfl _ _ _ 25 rfl 26 26 law26 Yba.underlying25 (plainElem Yba.prog 26) (w.heap.size + 1) n D rfl hown (by unfold maxLen; omega) _ _ (.int .i64 k) rfl rfl (keyOf_int_mk Yba.underlying26 (WalkArith.wf_i64 (n := (k : Int)) (by omega))) _ [] (plainElem_int Yba.underlying26 (stepZ_wf us k hk0 (by omega))) ?_)
      intro w2 hown2 hgrow2
      have HM2 : Hid (MapIs w2 (w.heap.size + 1) (k + 1) us) := mapIs_put (w := w1) hn hD HAT.out hown2
      have hB2 : Below (w.heap.size + 1) (w.alloc (.cells #[.slice a2 len2 cap2] 23)) w2 := r2.grown hgrow2 (by omega) (fun k hk => by cases hk; exact Nat.le_refl _)
      have hs2 : w.heap.size + 2 ≤ w2.heap.size := Nat.le_trans r3 hgrow2.size
      clear hown2 hgrow2 hown
      go_wp2_with fail
      go_roundw
      case rel => exact ⟨k + 1, by omega, by go_num, HM2, hB2, hs2⟩
      case measure => simp [intOf]; omega
    · obtain rfl : k = len1 + 1 := by omega
      obtain ⟨wp, hwp⟩ : ∃ x, x = wr := ⟨wr, rfl⟩
      subst hwp
      go_wp2_with fail
      have h3 := three_below wp (.cells #[.slice none 0 0] 28) (.map #[] 0) (.cells #[.nilFunc, .nilFunc, .map (some (wp.heap.size + 1)), .map (some (w.heap.size + 1))] 36)
      refine (clone_any a0 len0 cap0 pre _ hl0 (strs_below HP.out HPB.out (fun k hk => (h3.block k (by omega)).trans (hB.block k hk)))).mono ?_
      rintro e w2 ⟨v0, rfl, ho2, hb2⟩
      simp only [World.size_alloc] at ho2 hb2
      obtain ⟨q1, q2, q3, q4, q5, q6⟩ := ready r1.out r2 r3 hb2
      have hs0 : 0 ≤ sel % ((len1 : Int) + 1) := Int.emod_nonneg _ (by omega)
      have hs1 : sel % ((len1 : Int) + 1) < (len1 : Int) + 1 := Int.emod_lt_of_pos _ (by omega)
      obtain ⟨s, hs⟩ : ∃ s, s = sel % ((len1 : Int) + 1) := ⟨_, rfl⟩
      have HQ : Hid (Log w2 wp.heap.size (wp.heap.size + 1 + 1 + 1) (.slice none 0 0) [] ∧ w2.ownsRow (wp.heap.size + 1 + 1 + 1) 9 1 v0 len0 (pre.map Value.string) ∧ w2.cell? ⟨w.heap.size, 0, none⟩ = some (.slice a2 len2 cap2) ∧
        w2.cell? ⟨wp.heap.size + 1 + 1, 3, none⟩ = some (.map (some (w.heap.size + 1))) ∧ MapIs w2 (w.heap.size + 1) (len1 + 1) us) := ⟨q1, ho2, q3, q4, q5⟩
      clear ho2 hb2 h3 r1 q1 q3 q4 q5
      rw [← hs] at hs0 hs1 ⊢
      clear hs
      go_wp2_with fail
      refine (up_any (wp.heap.size + 1 + 1) (w.heap.size + 1) wp.heap.size w.heap.size w.heap.size (wp.heap.size + 1 + 1 + 1) (len1 + 1) pre us cs a2 len2 cap2 v0 s w2 hs0 (by omega) (by omega) (by rw [HP.out.1]; exact hl0) (by rw [HP.out.1]; exact HQ.out.2.1) HQ.out.1
        (by omega) (by omega) (by omega) (by omega) q2 (by omega) (by omega) (by omega) (by omega) HQ.out.2.2.1 HCL.out (HCS.out.below q6.block) HQ.out.2.2.2.1 HQ.out.2.2.2.2).mono ?_
      rintro e w3 ⟨vg, rfl, hinv⟩
      have hB3 : Below w.heap.size w w3 := by
        have hb := hinv.2.2
        exact ⟨hb.os.trans q6.os, hb.tape.trans q6.tape, hb.output.trans q6.output, Nat.le_trans q6.size hb.size, fun k hk => (hb.block k (by omega) (by omega)).trans (q6.block k hk)⟩
      have HI : Hid (Inv (wp.heap.size + 1 + 1 + 1) wp.heap.size cs pre w2 w3 vg (chainF us (len1 + 1) s)) := hinv
      have hcc : w3.cell? ⟨w.heap.size, 0, none⟩ = some (.slice a2 len2 cap2) := by rw [World.cell?_of_block (w := w2) (a := ⟨w.heap.size, 0, none⟩) (hinv.2.2.block w.heap.size (by omega) (by omega))]; exact HQ.out.2.2.1
      have HCC : Hid (w3.cell? ⟨w.heap.size, 0, none⟩ = some (.slice a2 len2 cap2)) := hcc
      have hlw : wp.heap.size < w3.heap.size := Nat.lt_of_lt_of_le (by omega) hinv.2.2.size
      clear hinv HQ hcc
      go_wp2_with fail
      refine (clone_any a0 len0 cap0 pre _ hl0 (strs_below HP.out HPB.out hB3.block)).mono ?_
      rintro e w4 ⟨vw, rfl, ho4, hb4⟩
      have HO4 : Hid (w4.ownsRow w3.heap.size 9 1 vw len0 (pre.map Value.string)) := ho4
      clear ho4
      go_wp2_with fail
      go_loopw [17, 18, 19] (fun xw xl i wx => ∃ (done : List Int) (f : Nat) (d : Int), i = .int .i64 d ∧ -1 ≤ d ∧ d < f ∧ d < (len1 : Int) + 1 ∧ (done.length : Int) + d ≤ (len1 : Int) + 1 ∧ Hid (done ++ chainF us f d = chainF us (len1 + 1) s) ∧ Hid (Want w3.heap.size cs pre wx xw xl done) ∧ Below w3.heap.size w3 wx) (fun _ _ i _ => (intOf i + 1).toNat)
      case atStart =>
        refine ⟨[], len1 + 1, s, rfl, by omega, by omega, by omega, by simp; omega, rfl, ⟨?_, World.ownsRow_nil _ _ _ _⟩, hb4⟩
        simp only [List.flatMap_nil, List.append_nil]
        rw [HP.out.1]; exact HO4.out
      case round =>
        obtain ⟨done, f, d, rfl, p1, p2, p3, p4, p5, p6, p7⟩ := hrel
        have hBx : Below w.heap.size w wr := hB3.trans (p7.mono hB3.size)
        by_cases hd : 0 ≤ d
        · have hbs : w3.heap.size ≤ wr.heap.size := p7.size
          obtain ⟨hw9, hw26⟩ := p6.out
          have hcd := cntN_le cs d
          have hNl : (pre ++ done.flatMap (ownNames cs)).length ≤ 10000 := by
            have h1 := flat_le cs done
            rw [List.length_append, HP.out.1]; omega
          obtain ⟨N, hN⟩ : ∃ N, N = pre ++ done.flatMap (ownNames cs) := ⟨_, rfl⟩
          rw [← hN] at hw9 hNl
          have HN : Hid (N = pre ++ done.flatMap (ownNames cs)) := hN
          have HW9 : Hid (wr.ownsRow w3.heap.size 9 1 u17 N.length (N.map Value.string)) := hw9
          clear hN hw9
          go_wp2_with (at_builtin; refine wpList_append_own _ rfl (.tmp 73) (.tmp 75) 28 rfl w3.heap.size 26 i0 (.int .i64 0) 1 8 Yba.underlying28 hi hz0 hz1 hz2 rfl (by decide) _ _ _ rfl (hw26.alloc _) ⟨wr.heap.size, 0, none⟩ 1 1 [.int .i64 d] rfl rfl (cell_one_new _ _ _) (ints_oneCell .i64 [d]) (by unfold maxLen; omega) (by omega) (by simp; omega) ?_)
          intro vl5 w5 ho5 hg5 _
          have hB5 : Below w3.heap.size w3 w5 := (p7.alloc hbs _).grown hg5 (by simp; omega) (fun k hk => (hw26.lt k hk).1)
          have HW9' : Hid (w5.ownsRow w3.heap.size 9 1 u17 N.length (N.map Value.string)) := owns9_grown (HW9.out.alloc _) (hw26.alloc _) hg5
          have HW26 : Hid (w5.ownsRow w3.heap.size 26 1 vl5 (done ++ [d]).length ((done ++ [d]).map (Value.int .i64))) := by
            unfold Hid; rw [List.length_append, List.map_append]; exact ho5
          have hcc : w5.cell? ⟨w.heap.size, 0, none⟩ = some (.slice a2 len2 cap2) := by rw [hB5.cell (p := ⟨w.heap.size, 0, none⟩) (by show w.heap.size < _; omega)]; exact HCC.out
          have hBy : Below w.heap.size w w5 := hB3.trans (hB5.mono hB3.size)
          clear ho5 hg5 HW9 hw26 p6
          go_wp2_with fail
          refine (count_int a2 len2 cap2 cs d w5 w.heap.size HCL.out hd (by omega) (HCS.out.below hBy.block)).mono ?_
          rintro e w6 ⟨rfl, hw6⟩
          subst hw6
          clear hcc hBy
          go_wp2_with fail
          go_loopw [17, 21] (fun xw i wx => ∃ j : Nat, j ≤ cntN cs d ∧ i = .int .i64 j ∧ Hid (wx.ownsRow w3.heap.size 9 1 xw (N.length + j) (N.map Value.string ++ ((ownNames cs d).take j).map Value.string)) ∧ Hid (wx.ownsRow w3.heap.size 26 1 vl5 (done ++ [d]).length ((done ++ [d]).map (Value.int .i64))) ∧ Below w3.heap.size w3 wx) (fun _ i _ => cntN cs d - (intOf i).toNat)
          case atStart => exact ⟨0, Nat.zero_le _, rfl, by simpa [Hid] using HW9'.out, HW26, hB5⟩
          case round =>
            obtain ⟨j, hj, rfl, t1, t2, t3⟩ := hrel
            by_cases hlt2 : j < cntN cs d
            · have hj1 : (0 : Int) ≤ (j : Int) := by omega
              have hj2 : (j : Int) < (cntN cs d : Int) := by omega
              go_wp2_with fail
              refine (name_any d j _ hd (by omega) hj1 (by omega)).mono ?_
              rintro e w7 ⟨rfl, hb7⟩
              have ho7 := owns_below t1.out hb7
              have hs7 : w3.heap.size ≤ w7.heap.size := Nat.le_trans t3.size hb7.size
              obtain ⟨X, hX⟩ : ∃ X, X = N.map Value.string ++ ((ownNames cs d).take j).map Value.string := ⟨_, rfl⟩
              rw [← hX] at ho7
              have HX : Hid (X = N.map Value.string ++ ((ownNames cs d).take j).map Value.string) := hX
              clear hX
              go_wp2_with (at_builtin; refine wpList_append_own _ rfl (.tmp 85) (.tmp 89) 22 rfl w3.heap.size 9 i9 (.string ⟨#[]⟩) 1 16 Yba.underlying22 hi9 hz09 hz19 hz29 rfl (by decide) _ _ _ rfl (ho7.alloc _) ⟨w7.heap.size, 0, none⟩ 1 1 [.string (nameB d j)] rfl rfl (cell_one_new _ _ _) (strs_one [nameB d j]) (by unfold maxLen; omega) (by omega) (by simp; omega) ?_)
              intro v8 w8 ho8 hg8 _
              have hb8 : Below w3.heap.size w3 w8 := ((t3.trans (hb7.mono t3.size)).alloc hs7 _).grown hg8 (by simp; omega) (fun k hk => (ho7.lt k hk).1)
              have HW8 : Hid (w8.ownsRow w3.heap.size 9 1 v8 (N.length + (j + 1)) (N.map Value.string ++ ((ownNames cs d).take (j + 1)).map Value.string)) := by
                unfold Hid
                rw [take_names cs d j hlt2, List.map_append, ← List.append_assoc, ← HX.out]
                exact ho8
              have HL8 : Hid (w8.ownsRow w3.heap.size 26 1 vl5 (done ++ [d]).length ((done ++ [d]).map (Value.int .i64))) := owns26_grown (ho7.alloc _) ((owns_below t2.out hb7).alloc _) hg8
              clear ho8 hg8 ho7 t1 t2
              go_wp2_with fail
              go_roundw
              case rel => exact ⟨j + 1, by omega, by go_num, HW8, HL8, hb8⟩
              case measure => simp [intOf]; omega
            · obtain rfl : j = cntN cs d := by omega
              have hBz : Below w.heap.size w wr := hB3.trans (t3.mono hB3.size)
              have HWN : Hid (Want w3.heap.size cs pre wr u17 vl5 (done ++ [d])) := by
                refine ⟨?_, t2.out⟩
                have h1 := t1.out
                rw [List.take_of_length_le (by rw [ownNames_length]; exact Nat.le_refl _), ← List.map_append] at h1
                rw [flat_snoc, ← List.append_assoc, ← HN.out, List.length_append, ownNames_length]
                exact h1
              go_wp2_with fail
              refine (step_int a1 len1 cap1 us d wr w.heap.size HUL.out hd (by omega) (HUS.out.below hBz.block)).mono ?_
              rintro e w9 ⟨rfl, hw9⟩
              subst hw9
              obtain ⟨sd, hsd⟩ : ∃ sd, sd = stepZ us d := ⟨_, rfl⟩
              have hbd := stepZ_lt us d hd
              rw [← hsd] at hbd
              obtain ⟨f', hf, hch⟩ := chainF_pos us f d hd p2
              have HC4 : Hid ((done ++ [d]) ++ chainF us f' sd = chainF us (len1 + 1) s) := by
                have h5 := p5.out
                unfold Hid
                rw [← h5, hch, hsd]; simp
              have HF : Hid ((f : Int) = f' + 1) := by unfold Hid; omega
              clear hf hch
              rw [← hsd]
              clear hsd
              go_wp2_with fail
              go_roundw
              case rel => exact ⟨done ++ [d], f', sd, rfl, hbd.1, by have := HF.out; omega, by omega, by simp; omega, HC4, HWN, t3⟩
              case measure => simp [intOf]; omega
        · obtain rfl : d = -1 := by omega
          have hC : done = chainF us (len1 + 1) s := by
            have h5 := p5.out
            rw [chainF_neg, List.append_nil] at h5
            exact h5
          have HG : Hid (Reads wr vg (pre ++ done.flatMap (ownNames cs)).length (fun j => .string ((pre ++ done.flatMap (ownNames cs)).getD j ⟨#[]⟩))) := by
            rw [hC]
            exact reads_strs (owns_below HI.out.1 p7)
          obtain ⟨lv, hlv⟩ := HI.out.2.1
          rw [← hC] at hlv
          have HL : Hid (Reads wr lv done.length (fun j => .int .i64 (done.getD j 0))) := reads_ints (owns_below hlv.2 p7)
          have hcl : wr.cell? ⟨wp.heap.size, 0, none⟩ = some lv := by
            rw [p7.cell (p := ⟨wp.heap.size, 0, none⟩) (by exact hlw)]
            exact cell_of_one hlv.1
          have hnl : (pre ++ done.flatMap (ownNames cs)).length ≤ 100000 := by
            have h1 := flat_le cs done
            rw [List.length_append, HP.out.1]; omega
          have hdl : done.length ≤ 100000 := by omega
          obtain ⟨N, hN⟩ : ∃ N, N = pre ++ done.flatMap (ownNames cs) := ⟨_, rfl⟩
          have hw9 := p6.out.1
          rw [← hN] at hw9 hnl HG
          have HW9 : Hid (Reads wr u17 N.length (fun j => .string (N.getD j ⟨#[]⟩))) := reads_strs hw9
          have HW26 : Hid (Reads wr u18 done.length (fun j => .int .i64 (done.getD j 0))) := reads_ints p6.out.2
          clear hN hw9 p6 hlv hC
          go_wp2_with fail
          refine (equalS_any vg u17 N.length _ wr hnl HG.out HW9.out).mono ?_
          rintro e w7 ⟨rfl, nq, rfl⟩
          go_wp2_with fail
          refine (equalI_any lv u18 done.length _ _ hdl (reads_drewN HL.out _) (reads_drewN HW26.out _)).mono ?_
          rintro e w8 ⟨rfl, nq2, rfl⟩
          go_wp2_with fail
          go_ret
          exact ⟨rfl, below_drewN hBx _⟩
end Go.Proofs.Ybulklyc
