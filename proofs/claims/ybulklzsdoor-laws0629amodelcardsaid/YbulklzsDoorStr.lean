/-
  THE CONTRACTS of headReader's count and string, in three ways: nothing decoded; a count too great; a string.
-/
import Derived.Test.YbulklzsDoorReader
namespace Go.Proofs.YbulklzsDoor
open Go.RowKit
set_option linter.unusedVariables false

theorem block_set0 {w : World} {R : Nat} {x y z : Value} (h : w.heap[R]? = some (.cells #[x, y] 28 (0, 0))) : (w.setCell ⟨R, 0, none⟩ z).heap[R]? = some (.cells #[z, y] 28 (0, 0)) := by
  simp only [World.setCell, Array.getElem?_modify]
  rw [if_pos trivial, h]
  simp
theorem block_set1 {w : World} {R : Nat} {x y z : Value} (h : w.heap[R]? = some (.cells #[x, y] 28 (0, 0))) : (w.setCell ⟨R, 1, none⟩ z).heap[R]? = some (.cells #[x, z] 28 (0, 0)) := by
  simp only [World.setCell, Array.getElem?_modify]
  rw [if_pos trivial, h]
  simp
theorem grown_set (w : World) (R i : Nat) (v : Value) : w.grownBy (w.setCell ⟨R, i, none⟩ v) (some R) :=
  ⟨rfl, rfl, rfl, by simp [World.setCell], fun k hk hne => Below.heap_setCell _ _ _ _ (by intro e; exact hne (by rw [e]))⟩

theorem cellB_grown {w w' : World} {R : Nat} {a : Option Addr} {n : Nat} {l : List UInt8} (h : CellB w a n l) (hne : ∀ ad : Addr, a = some ad → 0 < n → ad.block ≠ R) (hg : w.grownBy w' (some R)) : CellB w' a n l := by
  refine h.kept (fun ad ha hn => hg.block _ ?_ (by have := hne ad ha hn; simpa using this))
  obtain ⟨g, o, h1, h2⟩ := h.at hn
  have h0 := h2 0 (by rw [h.1]; exact hn)
  rw [h1] at ha
  simp at ha
  subst ha
  exact World.block_lt_of_cell? _ _ h0

theorem Rd.err {w : World} {R : Nat} {a : Option Addr} {n c : Nat} {ev : Value} {l : List UInt8} (h : Rd w R a n c ev l) (E : Value) : Rd (w.setCell ⟨R, 1, none⟩ E) R a n c E l :=
  ⟨block_set1 h.1, cellB_grown h.2.1 h.2.2.1 (grown_set _ _ _ _), h.2.2.1, h.2.2.2⟩

theorem cut_block {a : Option Addr} {c k : Nat} {ad : Addr} (h : cut a c k = some ad) : ∃ x, a = some x ∧ x.block = ad.block := by
  unfold cut at h
  split at h
  · exact ⟨ad, h, rfl⟩
  · cases a with
    | none => simp at h
    | some x =>
      refine ⟨x, rfl, ?_⟩
      simp at h
      rw [← h]
      unfold Addr.add
      split <;> rfl

theorem Rd.move {w : World} {R : Nat} {a : Option Addr} {n c : Nat} {ev : Value} {l : List UInt8} (h : Rd w R a n c ev l) (k : Nat) (hk : k ≤ n) : Rd (w.setCell ⟨R, 0, none⟩ (.slice (cut a c k) (n - k) (c - k))) R (cut a c k) (n - k) (c - k) ev (l.drop k) := by
  obtain ⟨h1, h2, h3, h4⟩ := h
  have hne : ∀ ad : Addr, cut a c k = some ad → 0 < n - k → ad.block ≠ R := by
    intro ad ha hn
    obtain ⟨x, hx, hb⟩ := cut_block ha
    rw [← hb]
    exact h3 x hx (by omega)
  exact ⟨block_set0 h1, cellB_grown (cellB_drop h2 k hk h4) hne (grown_set _ _ _ _), hne, by omega⟩

theorem cell_set {w : World} {R i : Nat} {v E : Value} (h : w.cell? ⟨0, 0, none⟩ = some E) (hR : R ≠ 0) : (w.setCell ⟨R, i, none⟩ v).cell? ⟨0, 0, none⟩ = some E := by
  rw [World.cell?_of_block (w := w) (a := ⟨0, 0, none⟩) (Below.heap_setCell _ _ _ _ (by exact fun e => hR e.symm))]; exact h

set_option maxRecDepth 100000 in
set_option maxHeartbeats 400000 in
theorem cnt_bad (R : Nat) (a : Option Addr) (n c : Nat) (ev E : Value) (l : List UInt8) (w : World) (T : TypeId) (p : Value) (hE : E = .iface T p) (hr : Rd w R a n c ev l) (hg : w.cell? ⟨0, 0, none⟩ = some E)
    (hev : ev = .nilIface ∨ ∃ t q, ev = .iface t q) (hbad : ev ≠ .nilIface ∨ (Lib.uvarintDec l).2 ≤ 0) (hc63 : c ≤ 9223372036854775807) :
    Calls Ybad.prog 9 #[.pointer (some ⟨R, 0, none⟩)] w fun e w' => e = .returned (.int .i64 0) ∧ w' = w.setCell ⟨R, 1, none⟩ E := by
  have hnc := hr.2.2.2
  have hb := (hr.err E).1
  have c0 : (w.setCell ⟨R, 1, none⟩ E).cell? ⟨R, 0, none⟩ = some (.slice a n c) := by simp only [World.cell?, hb]; rfl
  have HU : Hid (Calls Ybad.prog 10 #[.pointer (some ⟨R, 0, none⟩)] w fun e w' => e = .returned (.int .u64 0) ∧ w' = w.setCell ⟨R, 1, none⟩ E) := uv_bad R a n c ev E l w T p hE hr hg hev hbad
  obtain ⟨W, hW⟩ : ∃ W, W = w.setCell ⟨R, 1, none⟩ E := ⟨_, rfl⟩
  rw [← hW] at c0 HU ⊢
  clear hE hr hg hev hbad hb hW
  go_enter Ybad.func9, Ybad.ntmps9
  go_wp2_with fail
  refine HU.out.mono ?_
  rintro e w1 ⟨rfl, hw1⟩
  subst hw1
  go_wp2_with fail
  go_ret
  exact ⟨rfl, rfl⟩

set_option maxRecDepth 100000 in
set_option maxHeartbeats 400000 in
theorem cnt_over (R : Nat) (a : Option Addr) (n c k : Nat) (E : Value) (l : List UInt8) (w : World) (T : TypeId) (p : Value) (hE : E = .iface T p) (hR : R ≠ 0) (hr : Rd w R a n c .nilIface l) (hg : w.cell? ⟨0, 0, none⟩ = some E)
    (hk : (Lib.uvarintDec l).2 = (k : Int)) (hk1 : 1 ≤ k) (hov : n - k < (Lib.uvarintDec l).1) (hc63 : c ≤ 9223372036854775807) :
    Calls Ybad.prog 9 #[.pointer (some ⟨R, 0, none⟩)] w fun e w' => e = .returned (.int .i64 0) ∧ w' = (w.setCell ⟨R, 0, none⟩ (.slice (cut a c k) (n - k) (c - k))).setCell ⟨R, 1, none⟩ E := by
  have hle := dec_le l
  have hkn : k ≤ n := by rw [hk, hr.2.1.1] at hle; omega
  have hnc := hr.2.2.2
  have hb := (hr.move k hkn).1
  obtain ⟨v, hv⟩ : ∃ v : Int, v = ((Lib.uvarintDec l).1 : Int) := ⟨_, rfl⟩
  have HU := uv_good R a n c k l w hr hk hk1 hc63
  have hv2 : ((n - k : Nat) : Int) < v := by omega
  rw [← hv] at HU
  have hg2 := cell_set (i := 0) (v := .slice (cut a c k) (n - k) (c - k)) hg hR
  obtain ⟨W, hW⟩ : ∃ W, W = w.setCell ⟨R, 0, none⟩ (.slice (cut a c k) (n - k) (c - k)) := ⟨_, rfl⟩
  rw [← hW] at hb HU hg2 ⊢
  have c0 : W.cell? ⟨R, 0, none⟩ = some (.slice (cut a c k) (n - k) (c - k)) := by simp only [World.cell?, hb]; rfl
  have c1 : W.cell? ⟨R, 1, none⟩ = some .nilIface := by simp only [World.cell?, hb]; rfl
  have f1 : W.frozen? ⟨R, 1, none⟩ = false := by simp [World.frozen?, hb]
  have HU2 : Hid (Calls Ybad.prog 10 #[.pointer (some ⟨R, 0, none⟩)] w fun e w' => e = .returned (.int .u64 v) ∧ w' = W) := HU
  obtain ⟨m, hm⟩ : ∃ m, m = n - k := ⟨_, rfl⟩
  obtain ⟨ct, hct⟩ : ∃ ct, ct = cut a c k := ⟨_, rfl⟩
  rw [← hm] at hv2 c0
  rw [← hct] at c0
  have hm2 : m ≤ 9223372036854775807 := by omega
  subst hE
  clear hr hg hk hk1 hov hb hW HU hv hle hm hct hnc hkn
  go_enter Ybad.func9, Ybad.ntmps9
  go_wp2_with fail
  refine HU2.out.mono ?_
  rintro e w1 ⟨rfl, hw1⟩
  subst hw1
  go_wp2_with fail
  go_ret
  exact ⟨rfl, rfl⟩

set_option maxRecDepth 100000 in
set_option maxHeartbeats 400000 in
theorem cnt_ok (R : Nat) (a : Option Addr) (n c k : Nat) (l : List UInt8) (w : World) (hr : Rd w R a n c .nilIface l)
    (hk : (Lib.uvarintDec l).2 = (k : Int)) (hk1 : 1 ≤ k) (hov : (Lib.uvarintDec l).1 ≤ n - k) (hc63 : c ≤ 9223372036854775807) :
    Calls Ybad.prog 9 #[.pointer (some ⟨R, 0, none⟩)] w fun e w' => e = .returned (.int .i64 (Lib.uvarintDec l).1) ∧ w' = w.setCell ⟨R, 0, none⟩ (.slice (cut a c k) (n - k) (c - k)) := by
  have hle := dec_le l
  have hkn : k ≤ n := by rw [hk, hr.2.1.1] at hle; omega
  have hnc := hr.2.2.2
  have hb := (hr.move k hkn).1
  obtain ⟨v, hv⟩ : ∃ v : Int, v = ((Lib.uvarintDec l).1 : Int) := ⟨_, rfl⟩
  have HU := uv_good R a n c k l w hr hk hk1 hc63
  have hv2 : v ≤ ((n - k : Nat) : Int) := by omega
  have hv0 : 0 ≤ v := by omega
  rw [← hv] at HU ⊢
  obtain ⟨W, hW⟩ : ∃ W, W = w.setCell ⟨R, 0, none⟩ (.slice (cut a c k) (n - k) (c - k)) := ⟨_, rfl⟩
  rw [← hW] at hb HU ⊢
  have c0 : W.cell? ⟨R, 0, none⟩ = some (.slice (cut a c k) (n - k) (c - k)) := by simp only [World.cell?, hb]; rfl
  have HU2 : Hid (Calls Ybad.prog 10 #[.pointer (some ⟨R, 0, none⟩)] w fun e w' => e = .returned (.int .u64 v) ∧ w' = W) := HU
  obtain ⟨m, hm⟩ : ∃ m, m = n - k := ⟨_, rfl⟩
  obtain ⟨ct, hct⟩ : ∃ ct, ct = cut a c k := ⟨_, rfl⟩
  rw [← hm] at hv2 c0
  rw [← hct] at c0
  have hm2 : m ≤ 9223372036854775807 := by omega
  have hv3 : v ≤ 9223372036854775807 := by omega
  clear hr hk hk1 hov hb hW HU hv hle hm hct hnc hkn
  go_enter Ybad.func9, Ybad.ntmps9
  go_wp2_with fail
  refine HU2.out.mono ?_
  rintro e w1 ⟨rfl, hw1⟩
  subst hw1
  go_wp2_with fail
  go_ret
  exact ⟨rfl, rfl⟩
end Go.Proofs.YbulklzsDoor
