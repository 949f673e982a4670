/-
  'Rows.LawS0629ARoundTripCardSaid': the row out of the walk, then the tied card by the builder's one call (after the kit's worked MapyProofs, MapyCard and IpowTold texts).
-/
import Derived.Test.YbulklzsDoorTie
import Derived.Test.YbulklzsDoorCards
import Derived.Test.YbulklzsDoorLaid
import Derived.Test.YbulklzsDoorTrip
import Derived.SevenTiedAt
namespace Go.Proofs.YbulklzsDoor
open Go.ChangeShapes Go.WideShapes Go.ChangeAt Go.RowKit Go.Stop
open Go.ChangeMaps (open_string shut_string)
set_option linter.unusedVariables false

theorem var_keep {P : Program} {B g : Nat} {W W' : World} {n : String} {cs : Array Value} (h : Below B W W') (hg : P.globalNamed n = some g) (hgB : g < B) (hv : W.var? P n = some cs) : W'.var? P n = some cs := by
  unfold World.var? at hv ⊢
  simp only [hg, Option.bind_some] at hv ⊢
  rw [h.block g hgB]
  exact hv

theorem trip_any (s : ByteArray) (a1 : Option Addr) (n1 c1 : Nat) (pre : Bool) (t : List UInt8) (T : TypeId) (p : Value) (w : World) (hg : w.cell? ⟨0, 0, none⟩ = some (.iface T p)) (hg0 : 0 < w.heap.size)
    (ht : CellB w a1 n1 t) (hnil : a1 = none → c1 = 0) :
    Calls Ybad.prog 3 #[.string s, .slice a1 n1 c1, .bool pre] w fun e w' => e = .returned (.bool true) ∧ Below w.heap.size w w' := by
  by_cases h : s.size ≤ 4096 ∧ n1 ≤ 4096
  · exact trip_short s a1 n1 c1 pre t _ T p w rfl hg hg0 h.1 h.2 ht (cellB_lt ht) hnil
  · exact trip_long s a1 n1 c1 pre w (by omega)

set_option maxRecDepth 100000 in
theorem trip_lifted (os : Os) (started : os.Started) (H : Type) (enc : TypeId × Value → H) :
    ReturnsInHanded {} Ybad.checked os 3 .any (fun w args => (Rows.lawS0629ARoundTripSpec.pre enc Ybad.prog Ybad.f3 [] false w args ∧ laidMetH Ybad.prog laid1 w) ∧ sizedMet enc Ybad.prog Ybad.f3 (OpenSpec.ofChange Rows.lawS0629ARoundTripSpec) false w args)
      (Rows.lawS0629ARoundTripSpec.post enc Ybad.prog Ybad.f3 false true false false) := by
  refine returnsInHanded_of_change_and (C := Ybad.checked) (X := fun w _ => laidMetH Ybad.prog laid1 w) (fun _ _ _ hh h => h.of_heap hh) own started (by kernel_rfl) Ybad.func3
    (ChangeSpec.witness_shaped (enc := enc) (C := Ybad.checked) (os := os) (X := fun w _ => laidMetH Ybad.prog laid1 w) false (World.doorLaid Ybad.prog 400 os) #[.string ⟨#[]⟩, .slice none 0 0, .bool false] 8 rfl (World.shaped_of_RefB (by kernel_rfl) (by kernel_rfl)) (by kernel_rfl) (by kernel_rfl) (by kernel_rfl) (door_met os _)) ?_
  intro W base args ds gs before hval0 hW _ _ hL _
  have hval : ∀ (j : Nat) t v, Ybad.f3.params[j]? = some t → args[j]? = some v → Value.okWide Ybad.prog W .any base t v := hval0
  have hW' := hW
  obtain ⟨p, q, hA0, hV0, rfl, hfz, hnd⟩ := hW
  have hA : DataW.TrodAll enc Ybad.prog W 0 (fun _ => true) true Ybad.f3.params.toList args.toList ds p := hA0
  have hV : DataW.TrodVars enc Ybad.prog W (fun _ => true) [errName] gs q := hV0
  rw [Ybad.params3] at hA hval
  obtain ⟨v0, v1, v2, d0, d1, d2, p0, p1, p2, rfl, rfl, rfl, h0, h1, h2⟩ := trodAll_three hA
  obtain ⟨a, hv1⟩ := err_of_laid hL
  obtain ⟨rfl, rfl⟩ := hV.unique (vars_read1 enc gErr tErr Ybad.underlying26 hv1 trivial _)
  obtain ⟨s, rfl, rfl, rfl, ws⟩ := open_string Ybad.underlying9 (hval 0 9 v0 rfl rfl) h0
  obtain ⟨a1, n1, c1, rfl⟩ := okWide_slice Ybad.underlying22 (hval 1 22 v1 rfl rfl)
  obtain ⟨pre, rfl, rfl, rfl⟩ := open_bool Ybad.underlying4 (hval 2 4 v2 rfl rfl) h2
  have k1 := h1
  have lt1 : ∀ x ∈ p1, x.block < W.heap.size := by obtain ⟨m, hm⟩ := k1; exact DataW.trod_lt m _ _ _ hm
  obtain ⟨t, ht, hnil, _, _⟩ := bytes_in h1
  have hg1 : W.cell? ⟨0, 0, none⟩ = some (.iface 44 (.pointer (some a))) := by simpa using World.var?_cell gErr hv1 0
  have h0lt : 0 < W.heap.size := World.block_lt_of_cell? _ _ hg1
  clear hA0 hval0 hV0
  refine (trip_any s a1 n1 c1 pre t _ _ W hg1 h0lt ht hnil).mono fun e W' ⟨he, bel⟩ => ?_
  subst he
  exact ⟨_, rfl, _, _, _, [], _, [.cell 0 0], hW', trodAll_mk1 (shut_bool Ybad.underlying4 _), trodAll_mk3 (shut_string Ybad.underlying9 ws) (Below.trod laidOut (by kernel_rfl) (of_decide_eq_true (by kernel_rfl)) k1 bel lt1) (shut_bool Ybad.underlying4 _),
    vars_read1 enc gErr tErr Ybad.underlying26 (var_keep bel gErr h0lt hv1) trivial _, bel.frame _, fun h => by cases h⟩

theorem trip_holds : Rows.LawS0629ARoundTripSaid :=
  OpenClaim.holds_of_wide 3 Ybad.f3 rfl rfl rfl rfl rfl rfl rfl ⟨rfl, rfl, rfl, rfl, rfl⟩ rfl rfl rfl rfl rfl (by kernel_rfl) Ybad.func3 (by kernel_rfl)
    (of_decide_eq_true (by kernel_rfl)) (by unfold Func.isWrapper; first | (rw [if_pos (by decide +kernel)]; kernel_rfl) | (rw [if_neg (by decide +kernel)]; exact ⟨rfl, rfl⟩))
    (fun os started H enc _ => trip_lifted os started H enc)

theorem trip_card : Rows.LawS0629ARoundTripCardSaid :=
  Claim7.holds_tied_plain_at .later [] [.called] true Rows.lawS0629ARoundTripCard.stood.harness false
    trip_holds (fun _ h => by cases h) (by kernel_rfl) (fun _ h => by cases h) lawS0629ARoundTrip_row_tie rfl ⟨rfl, rfl⟩ (by kernel_rfl) rfl
    (fun f fn hf hfn => by
      obtain rfl : f = 3 := Option.some.inj ((show Ybad.prog.funcNamed Rows.lawS0629ARoundTripRow.func = some 3 by kernel_rfl).symm.trans hf) |>.symm
      obtain rfl : fn = Ybad.f3 := (Option.some.inj (Ybad.func3.symm.trans hfn)).symm
      exact ⟨by kernel_rfl, fun j t ht => by
        rw [Ybad.params3] at ht
        have hm : t ∈ [9, 22, 4] := by simpa using Array.mem_of_getElem? ht
        have hall : ([9, 22, 4].all fun u => !Ybad.prog.wantsStandIn u) = true := by kernel_rfl
        exact (show Ybad.prog.wantsStandIn t = false by simpa using List.all_eq_true.1 hall t hm)⟩)
    (by kernel_rfl)
end Go.Proofs.YbulklzsDoor
