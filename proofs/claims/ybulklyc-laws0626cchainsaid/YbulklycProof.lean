/-
  'Rows.LawS0626CChainSaid': the row out of the walk (after the kit's proof-skeleton frame).
-/
import Derived.Test.YbulklycRows
import Derived.Test.YbulklycWalk
import Derived.ProofKit
import Derived.OpenShut
import Derived.ShutString
import Derived.ChangeOld
import Derived.SliceStrings
namespace Go.Proofs.Ybulklyc
open Go.ChangeShapes Go.WideShapes Go.ChangeAt Go.RowKit Chain
open Go.ChangeMaps (open_string shut_string)
set_option linter.unusedVariables false

theorem own : ownKnob Yba.prog.godebug = none := by kernel_rfl
theorem laidOut : laidOutB Yba.prog = true := by kernel_rfl
theorem cells9 : Yba.prog.cellsOf 9 = 1 := by kernel_rfl

theorem spot_none {w : World} {x : Addr} {v : Value} (h : w.cell? (x.add 0) = some v) : x.spot = none := by
  unfold Addr.add World.cell? at h
  simp at h
  split at h
  · split at h
    · simp at h
    · rename_i h'; cases hs : x.spot <;> simp_all
  · simp at h
theorem lt_of_cell {w : World} {b o : Nat} {v : Value} (h : w.cell? ⟨b, o, none⟩ = some v) : b < w.heap.size := by
  unfold World.cell? at h
  cases hb : w.heap[b]? with
  | none => simp [hb] at h
  | some o => exact (Array.getElem?_eq_some_iff.1 hb).1
theorem add_none (b off j : Nat) : (⟨b, off, none⟩ : Addr).add j = ⟨b, off + j, none⟩ := by unfold Addr.add; split <;> simp_all

/-- Cells at 'a.add j', each with its value, as the walk wants them. -/
theorem at_place {w : World} {a : Addr} {n : Nat} {V : Nat → Value} (h : ∀ i, i < n → w.cell? (a.add i) = some (V i)) :
    ∀ j, j < n → ∃ b off, a = ⟨b, off, none⟩ ∧ b < w.heap.size ∧ w.cell? ⟨b, off + j, none⟩ = some (V j) := by
  intro j hj
  have h0 := h 0 (by omega)
  have hj' := h j hj
  obtain ⟨b, off, sp⟩ := a
  have hsp : sp = none := spot_none h0
  subst hsp
  rw [add_none] at hj'
  exact ⟨b, off, rfl, lt_of_cell hj', hj'⟩

/-- A slice of bytes that came in, opened. -/
theorem bytes_in {H : Type} {enc : TypeId × Value → H} {W : World} {a : Option Addr} {len cap : Nat} {d : DataW H} {p : List MemPlace}
    (h : DataW.Trod enc Yba.prog W 0 (fun _ => true) true 23 (.slice a len cap) d p) : ∃ zs, U8s W W.heap.size a len zs ∧ len = zs.length := by
  obtain ⟨fuel, hf⟩ := h
  rcases open_ints Yba.underlying23 Yba.underlying5 (by kernel_rfl) hf with ⟨hcs, _⟩ | ⟨x, l, c, zs, hcs, _, hl, hm, hz, _, hcell, hwz⟩
  · simp [Value.cells] at hcs
    obtain ⟨rfl, rfl, rfl⟩ := hcs
    exact ⟨[], fun j hj => by omega, rfl⟩
  · simp [Value.cells] at hcs
    obtain ⟨rfl, rfl, rfl⟩ := hcs
    simp only [if_true] at hz
    refine ⟨zs.take len, ?_, by simp; omega⟩
    intro j hj
    obtain ⟨b, off, rfl, h2, h3⟩ := at_place hcell j (by omega)
    have e : (zs.take len).getD j 0 = zs.getD j 0 := by simp [List.getD, hj]
    have hjz : j < zs.length := by omega
    have hw := hwz (zs.getD j 0) (by simp only [List.getD, List.getElem?_eq_getElem hjz, Option.getD_some]; exact List.getElem_mem hjz)
    have hb := bounds_u8 hw
    exact ⟨b, off, rfl, h2, by rw [e]; exact h3, by rw [e]; exact hb.1, by rw [e]; exact hb.2⟩

/-- A slice of strings that came in, opened. -/
theorem strs_in {H : Type} {enc : TypeId × Value → H} {W : World} {a : Option Addr} {len cap : Nat} {d : DataW H} {p : List MemPlace}
    (h : DataW.Trod enc Yba.prog W 0 (fun _ => true) true 22 (.slice a len cap) d p) : ∃ ss, StrsAre W a len cap ss ∧ ∀ ad, a = some ad → 0 < len → ad.block < W.heap.size := by
  obtain ⟨fuel, hf⟩ := h
  rcases open_strings Yba.underlying22 Yba.underlying9 cells9 hf with ⟨hcs, _⟩ | ⟨x, l, c, ss, hcs, _, hl, hm, hz, _, hcell, _⟩
  · simp [Value.cells] at hcs
    obtain ⟨rfl, rfl, rfl⟩ := hcs
    exact ⟨[], ⟨rfl, .inl ⟨rfl, rfl, rfl⟩⟩, fun ad h => by cases h⟩
  · simp [Value.cells] at hcs
    obtain ⟨rfl, rfl, rfl⟩ := hcs
    simp only [if_true] at hz
    refine ⟨ss.take len, ⟨by simp; omega, .inr ⟨x, rfl, fun j s hj => ?_⟩⟩, fun ad h h0 => ?_⟩
    · have hjl : j < len := by
        have := (List.getElem?_eq_some_iff.1 hj).1
        simp at this; omega
      rw [hcell j (by omega)]
      rw [List.getElem?_take_of_lt hjl] at hj
      simp [List.getD, hj]
    · cases h
      obtain ⟨b, off, rfl, h2, _⟩ := at_place hcell 0 (by omega)
      exact h2

theorem walk (a0 a1 a2 : Option Addr) (len0 cap0 len1 cap1 len2 cap2 : Nat) (sel : Int) (pre : List ByteArray) (us cs : List Int) (w : World) (hsel : 0 ≤ sel) (hsel' : sel ≤ 65535)
    (hpre : StrsAre w a0 len0 cap0 pre) (hpreB : ∀ ad, a0 = some ad → 0 < len0 → ad.block < w.heap.size) (hus : U8s w w.heap.size a1 len1 us) (hul : len1 = us.length) (hcs : U8s w w.heap.size a2 len2 cs) (hcl : len2 = cs.length) :
    Calls Yba.prog 3 #[.slice a0 len0 cap0, .slice a1 len1 cap1, .slice a2 len2 cap2, .int .u16 sel] w fun e w' => e = .returned (.bool true) ∧ Below w.heap.size w w' := by
  by_cases h : len0 ≤ 1024 ∧ len1 ≤ 1024 ∧ len2 ≤ 1024
  · exact walk_short a0 a1 a2 len0 cap0 len1 cap1 len2 cap2 sel pre us cs w h.1 h.2.1 h.2.2 hsel hsel' hpre hpreB hus hul hcs hcl
  · exact walk_long a0 a1 a2 len0 cap0 len1 cap1 len2 cap2 sel w (by omega)

set_option maxRecDepth 100000 in
theorem lifted (os : Os) (started : os.Started) (H : Type) (enc : TypeId × Value → H) :
    ReturnsInHanded {} Yba.checked os 3 .any (Rows.lawS0626CChainSpec.pre6 enc Yba.prog Yba.f3 Rows.lawS0626CChainRow.domain false) (Rows.lawS0626CChainSpec.post enc Yba.prog Yba.f3 false true false false) := by
  refine returnsInHanded_of_change (C := Yba.checked) own started (by kernel_rfl) Yba.func3
    (ChangeSpec.witness6 (enc := enc) (C := Yba.checked) false ⟨#[], #[.slice none 0 0, .slice none 0 0, .slice none 0 0, .int .u16 0], []⟩ 8 (by kernel_rfl) (by kernel_rfl) (by kernel_rfl) (by kernel_rfl)) ?_
  intro W base args ds gs before hval0 hW hcnd _
  have hval : ∀ (j : Nat) t v, Yba.f3.params[j]? = some t → args[j]? = some v → Value.okWide Yba.prog W .any base t v := hval0
  have hW' := hW
  obtain ⟨p, q, hA0, hV, rfl, hfz, hnd⟩ := hW
  have hA : DataW.TrodAll enc Yba.prog W 0 (fun _ => true) true Yba.f3.params.toList args.toList ds p := hA0
  rw [Yba.params3] at hA hval
  obtain ⟨v0, vs0, d0, ds0, p0, q0, hargs, rfl, rfl, h0, r0⟩ := trodAll_cons hA
  obtain ⟨v1, vs1, d1, ds1, p1, q1, rfl, rfl, rfl, h1, r1⟩ := trodAll_cons r0
  obtain ⟨v2, vs2, d2, ds2, p2, q2, rfl, rfl, rfl, h2, r2⟩ := trodAll_cons r1
  obtain ⟨v3, vs3, d3, ds3, p3, q3, rfl, rfl, rfl, h3, r3⟩ := trodAll_cons r2
  obtain ⟨rfl, rfl, rfl⟩ := trodAll_nil r3
  obtain rfl : args = #[v0, v1, v2, v3] := by cases args; simp_all
  obtain ⟨rfl, rfl⟩ := trodVars_none hV
  obtain ⟨a0, len0, cap0, rfl⟩ := okWide_slice Yba.underlying22 (hval 0 22 v0 rfl rfl)
  obtain ⟨a1, len1, cap1, rfl⟩ := okWide_slice Yba.underlying23 (hval 1 23 v1 rfl rfl)
  obtain ⟨a2, len2, cap2, rfl⟩ := okWide_slice Yba.underlying23 (hval 2 23 v2 rfl rfl)
  obtain ⟨a3, rfl, rfl, rfl, w3⟩ := open_int Yba.underlying24 (hval 3 24 v3 rfl rfl) h3
  have k0 := h0
  have k1 := h1
  have k2 := h2
  have lt0 : ∀ x ∈ p0, x.block < W.heap.size := by obtain ⟨m, hm⟩ := k0; exact DataW.trod_lt m _ _ _ hm
  have lt1 : ∀ x ∈ p1, x.block < W.heap.size := by obtain ⟨m, hm⟩ := k1; exact DataW.trod_lt m _ _ _ hm
  have lt2 : ∀ x ∈ p2, x.block < W.heap.size := by obtain ⟨m, hm⟩ := k2; exact DataW.trod_lt m _ _ _ hm
  obtain ⟨pre, hs, hsB⟩ := strs_in h0
  obtain ⟨us, hu, hul⟩ := bytes_in h1
  obtain ⟨cs, hc, hcl⟩ := bytes_in h2
  have hb3 := bounds_u16 w3
  clear hA0 hval0
  refine (walk a0 a1 a2 len0 cap0 len1 cap1 len2 cap2 a3 pre us cs W hb3.1 hb3.2 hs hsB hu hul hc hcl).mono fun e W' ⟨he, bel⟩ => ?_
  subst he
  exact ⟨_, rfl, _, _, _, [], _, [], hW', trodAll_mk1 (shut_bool Yba.underlying4 _), (trodAll_cons_mk (Below.trod laidOut (by kernel_rfl) (of_decide_eq_true (by kernel_rfl)) k0 bel lt0) (trodAll_cons_mk (Below.trod laidOut (by kernel_rfl) (of_decide_eq_true (by kernel_rfl)) k1 bel lt1) (trodAll_cons_mk (Below.trod laidOut (by kernel_rfl) (of_decide_eq_true (by kernel_rfl)) k2 bel lt2) (trodAll_cons_mk (shut_int Yba.underlying24 w3) trodAll_mk0)))), rfl, bel.frame _, fun h => by cases h⟩

theorem over : Rows.lawS0626CChainRow.holds Yba.pinned (OpenSpec.ofChange Rows.lawS0626CChainSpec) :=
  OpenClaim.holds_of_wide 3 Yba.f3 rfl rfl rfl rfl rfl rfl rfl ⟨rfl, rfl, rfl, rfl, rfl⟩ rfl rfl rfl rfl rfl (by kernel_rfl) Yba.func3 (by kernel_rfl)
    (of_decide_eq_true (by kernel_rfl)) (by unfold Func.isWrapper; first | (rw [if_pos (by decide +kernel)]; kernel_rfl) | (rw [if_neg (by decide +kernel)]; exact ⟨rfl, rfl⟩))
    (fun os started H enc _ => lifted os started H enc)

theorem proved : Rows.LawS0626CChainSaid := over
end Go.Proofs.Ybulklyc
