/-
  'Rows.LawS0629AModelCardSaid': the row out of the walk, then the tied card by the builder's one call (after the kit's worked MapyProofs, MapyCard and IpowTold texts).
-/
import Derived.Test.YbulklzsDoorTie
import Derived.Test.YbulklzsDoorCards
import Derived.Test.YbulklzsDoorLaid
import Derived.Test.YbulklzsDoorModel
import Derived.SevenTiedAt
namespace Go.Proofs.YbulklzsDoor
open Go.ChangeShapes Go.WideShapes Go.ChangeAt Go.RowKit Go.Stop
open Go.ChangeMaps (open_string shut_string)
set_option linter.unusedVariables false

theorem var_keep {P : Program} {B g : Nat} {W W' : World} {n : String} {cs : Array Value} (h : Below B W W') (hg : P.globalNamed n = some g) (hgB : g < B) (hv : W.var? P n = some cs) : W'.var? P n = some cs := by
  unfold World.var? at hv ⊢
  simp only [hg, Option.bind_some] at hv ⊢
  rw [h.block g hgB]
  exact hv

theorem model_any (a0 : Option Addr) (n c : Nat) (l : List UInt8) (T : TypeId) (p : Value) (w : World) (hg : w.cell? ⟨0, 0, none⟩ = some (.iface T p)) (hg0 : 0 < w.heap.size)
    (ht : CellB w a0 n l) (hnc : n ≤ c) (hc63 : c ≤ 9223372036854775807) :
    Calls Ybad.prog 4 #[.slice a0 n c] w fun e w' => e = .returned (.bool true) ∧ Below w.heap.size w w' := by
  by_cases h : n ≤ 4096
  · exact model_short a0 n c l _ T p w rfl hg hg0 h ht hnc hc63
  · exact model_long a0 n c w (by omega)

set_option maxRecDepth 100000 in
theorem model_lifted (os : Os) (started : os.Started) (H : Type) (enc : TypeId × Value → H) :
    ReturnsInHanded {} Ybad.checked os 4 .any (fun w args => (Rows.lawS0629AModelSpec.pre enc Ybad.prog Ybad.f4 [] false w args ∧ laidMetH Ybad.prog laid1 w) ∧ sizedMet enc Ybad.prog Ybad.f4 (OpenSpec.ofChange Rows.lawS0629AModelSpec) false w args)
      (Rows.lawS0629AModelSpec.post enc Ybad.prog Ybad.f4 false true false false) := by
  refine returnsInHanded_of_change_and (C := Ybad.checked) (X := fun w _ => laidMetH Ybad.prog laid1 w) (fun _ _ _ hh h => h.of_heap hh) own started (by kernel_rfl) Ybad.func4
    (ChangeSpec.witness_shaped (enc := enc) (C := Ybad.checked) (os := os) (X := fun w _ => laidMetH Ybad.prog laid1 w) false (World.doorLaid Ybad.prog 400 os) #[.slice none 0 0] 8 rfl (World.shaped_of_RefB (by kernel_rfl) (by kernel_rfl)) (by kernel_rfl) (by kernel_rfl) (by kernel_rfl) (door_met os _)) ?_
  intro W base args ds gs before hval0 hW _ _ hL _
  have hval : ∀ (j : Nat) t v, Ybad.f4.params[j]? = some t → args[j]? = some v → Value.okWide Ybad.prog W .any base t v := hval0
  have hW' := hW
  obtain ⟨p, q, hA0, hV0, rfl, hfz, hnd⟩ := hW
  have hA : DataW.TrodAll enc Ybad.prog W 0 (fun _ => true) true Ybad.f4.params.toList args.toList ds p := hA0
  have hV : DataW.TrodVars enc Ybad.prog W (fun _ => true) [errName] gs q := hV0
  rw [Ybad.params4] at hA hval
  obtain ⟨v0, d0, rfl, rfl, h1⟩ := trodAll_one hA
  obtain ⟨a, hv1⟩ := err_of_laid hL
  obtain ⟨rfl, rfl⟩ := hV.unique (vars_read1 enc gErr tErr Ybad.underlying26 hv1 trivial _)
  obtain ⟨a0, n, c, rfl⟩ := okWide_slice Ybad.underlying22 (hval 0 22 v0 rfl rfl)
  have k1 := h1
  have lt1 : ∀ x ∈ p, x.block < W.heap.size := by obtain ⟨m, hm⟩ := k1; exact DataW.trod_lt m _ _ _ hm
  obtain ⟨l, ht, _, hnc, hc63⟩ := bytes_in h1
  have hg1 : W.cell? ⟨0, 0, none⟩ = some (.iface 44 (.pointer (some a))) := by simpa using World.var?_cell gErr hv1 0
  have h0lt : 0 < W.heap.size := World.block_lt_of_cell? _ _ hg1
  clear hA0 hval0 hV0
  refine (model_any a0 n c l _ _ W hg1 h0lt ht hnc hc63).mono fun e W' ⟨he, bel⟩ => ?_
  subst he
  exact ⟨_, rfl, _, _, _, [], _, [.cell 0 0], hW', trodAll_mk1 (shut_bool Ybad.underlying4 _), trodAll_mk1 (Below.trod laidOut (by kernel_rfl) (of_decide_eq_true (by kernel_rfl)) k1 bel lt1),
    vars_read1 enc gErr tErr Ybad.underlying26 (var_keep bel gErr h0lt hv1) trivial _, bel.frame _, fun h => by cases h⟩

theorem model_holds : Rows.LawS0629AModelSaid :=
  OpenClaim.holds_of_wide 4 Ybad.f4 rfl rfl rfl rfl rfl rfl rfl ⟨rfl, rfl, rfl, rfl, rfl⟩ rfl rfl rfl rfl rfl (by kernel_rfl) Ybad.func4 (by kernel_rfl)
    (of_decide_eq_true (by kernel_rfl)) (by unfold Func.isWrapper; first | (rw [if_pos (by decide +kernel)]; kernel_rfl) | (rw [if_neg (by decide +kernel)]; exact ⟨rfl, rfl⟩))
    (fun os started H enc _ => model_lifted os started H enc)

theorem model_card : Rows.LawS0629AModelCardSaid :=
  Claim7.holds_tied_plain_at .later [] [.called] true Rows.lawS0629AModelCard.stood.harness false
    model_holds (fun _ h => by cases h) (by kernel_rfl) (fun _ h => by cases h) lawS0629AModel_row_tie rfl ⟨rfl, rfl⟩ (by kernel_rfl) rfl
    (fun f fn hf hfn => by
      obtain rfl : f = 4 := Option.some.inj ((show Ybad.prog.funcNamed Rows.lawS0629AModelRow.func = some 4 by kernel_rfl).symm.trans hf) |>.symm
      obtain rfl : fn = Ybad.f4 := (Option.some.inj (Ybad.func4.symm.trans hfn)).symm
      exact ⟨by kernel_rfl, fun j t ht => by
        rw [Ybad.params4] at ht
        have hm : t ∈ [22] := by simpa using Array.mem_of_getElem? ht
        have hall : ([22].all fun u => !Ybad.prog.wantsStandIn u) = true := by kernel_rfl
        exact (show Ybad.prog.wantsStandIn t = false by simpa using List.all_eq_true.1 hall t hm)⟩)
    (by kernel_rfl)
end Go.Proofs.YbulklzsDoor
