/-
  WHAT STAYS while appendPropertyNames goes up the chain: lemmas on worlds, no walk.
-/
import Derived.Test.YbulklycOwn
import Derived.Maps.Own
import Derived.Maps.OwnOps
import Derived.Maps.Views
namespace Go.Proofs.Ybulklyc
open Go.RowKit Chain Go.Maps
set_option linter.unusedVariables false

/-- Below 'base', but for block Bl, w' is as w was. -/
structure ButB (base Bl : Nat) (w w' : World) : Prop where
  os : w'.os = w.os
  tape : w'.tape = w.tape
  output : w'.output = w.output
  size : w.heap.size ≤ w'.heap.size
  block : ∀ k, k < base → k ≠ Bl → w'.heap[k]? = w.heap[k]?

theorem ButB.refl (base Bl : Nat) (w : World) : ButB base Bl w w := ⟨rfl, rfl, rfl, Nat.le_refl _, fun _ _ _ => rfl⟩
theorem ButB.trans {base Bl : Nat} {a b c : World} (h : ButB base Bl a b) (k : ButB base Bl b c) : ButB base Bl a c :=
  ⟨k.os.trans h.os, k.tape.trans h.tape, k.output.trans h.output, Nat.le_trans h.size k.size, fun i h1 h2 => (k.block i h1 h2).trans (h.block i h1 h2)⟩
theorem ButB.of_but {base Bl : Nat} {w w' : World} {lv : Value} (h : But w w' Bl lv) (hb : base ≤ w.heap.size) (hl : ∀ k, lv.ownBlock = some k → base ≤ k) : ButB base Bl w w' :=
  ⟨h.os, h.tape, h.output, h.size, fun k h1 h2 => h.block k (by omega) h2 (fun e => by have := hl k e; omega)⟩
theorem ButB.of_grown {base Bl : Nat} {w w' : World} {row : Option Nat} (h : w.grownBy w' row) (hb : base ≤ w.heap.size) (hl : ∀ k, row = some k → base ≤ k) : ButB base Bl w w' :=
  ⟨h.os, h.tape, h.output, h.size, fun k h1 h2 => h.block k (by omega) (fun e => by have := hl k e.symm; omega)⟩

/-- Rows of two element types lie in two blocks. -/
theorem owns_apart {w : World} {b1 b2 : Nat} {v1 v2 : Value} {n1 n2 : Nat} {x1 x2 : List Value} (h1 : w.ownsRow b1 9 1 v1 n1 x1) (h2 : w.ownsRow b2 26 1 v2 n2 x2) (k : Nat) (hk : v1.ownBlock = some k) : v2.ownBlock ≠ some k := by
  intro hk2
  rcases h1.2 with ⟨rfl, _⟩ | ⟨g, cap, cur, rfl, _, hg, _⟩
  · simp [Value.ownBlock] at hk
  rcases h2.2 with ⟨rfl, _⟩ | ⟨g2, cap2, cur2, rfl, _, hg2, _⟩
  · simp [Value.ownBlock] at hk2
  simp [Value.ownBlock] at hk hk2
  subst hk
  subst hk2
  rw [hg] at hg2
  simp at hg2

theorem owns_block {w w' : World} {base : Nat} {e : TypeId} {size : Nat} {v : Value} {n : Nat} {xs : List Value} (h : w.ownsRow base e size v n xs) (hb : ∀ k, v.ownBlock = some k → w'.heap[k]? = w.heap[k]?) : w'.ownsRow base e size v n xs := by
  refine ⟨h.1, ?_⟩
  rcases h.2 with hn | ⟨g, cap, cur, rfl, hb', hgg, rest⟩
  · exact .inl hn
  · exact .inr ⟨g, cap, cur, rfl, hb', by rw [hb g rfl]; exact hgg, rest⟩

theorem log_grown {w w' : World} {Bl base : Nat} {lv : Value} {L : List Int} {v : Value} {n : Nat} {xs : List Value} (h : Log w Bl base lv L) (hv : w.ownsRow base 9 1 v n xs) (hg : w.grownBy w' v.ownBlock) (hBl : Bl < base) : Log w' Bl base lv L := by
  refine ⟨?_, ?_⟩
  · rw [hg.block Bl (lt_of_block h.1) (fun e => by have := (hv.lt Bl e.symm).1; omega)]; exact h.1
  · exact owns_block h.2 (fun k hk => hg.block k (h.2.lt k hk).2 (fun e => owns_apart hv h.2 k e.symm hk))

/-- The state while the names are gathered. -/
def Inv (base Bl : Nat) (cs : List Int) (pre : List ByteArray) (w0 wr : World) (v : Value) (done : List Int) : Prop :=
  wr.ownsRow base 9 1 v (pre ++ done.flatMap (ownNames cs)).length ((pre ++ done.flatMap (ownNames cs)).map Value.string) ∧ (∃ lv, Log wr Bl base lv done) ∧ ButB base Bl w0 wr

/-- Behind own(o) the names are still there. -/
theorem owns_behind {base Bl : Nat} {wr w' : World} {v lv : Value} {n m : Nat} {xs ys : List Value} (hv : wr.ownsRow base 9 1 v n xs) (hl : wr.ownsRow base 26 1 lv m ys) (hb : But wr w' Bl lv) (hBl : Bl < base) : w'.ownsRow base 9 1 v n xs :=
  owns_block hv (fun k hk => hb.block k (hv.lt k hk).2 (fun e => by have := (hv.lt k hk).1; omega) (owns_apart hv hl k hk))

/-- Behind own(o) and the append of what it gave. -/
theorem Inv.step {base Bl : Nat} {cs : List Int} {pre : List ByteArray} {w0 wr w' w2 : World} {v v' lv lv' : Value} {done : List Int} {o : Int}
    (hi : Inv base Bl cs pre w0 wr v done) (hl : Log wr Bl base lv done) (hb : But wr w' Bl lv) (hl' : Log w' Bl base lv' (done ++ [o])) (hBl : Bl < base) (hbase : base ≤ w0.heap.size)
    (ho : w2.ownsRow base 9 1 v' ((pre ++ done.flatMap (ownNames cs)).length + cntN cs o) ((pre ++ done.flatMap (ownNames cs)).map Value.string ++ (ownNames cs o).map Value.string)) (hg : w'.grownBy w2 v.ownBlock) :
    Inv base Bl cs pre w0 w2 v' (done ++ [o]) := by
  obtain ⟨h1, _, h3⟩ := hi
  have hvb := owns_behind h1 hl.2 hb hBl
  have hb1 : base ≤ wr.heap.size := Nat.le_trans hbase h3.size
  refine ⟨?_, ⟨lv', log_grown hl' hvb hg hBl⟩, (h3.trans (ButB.of_but hb hb1 (fun k hk => (hl.2.lt k hk).1))).trans (ButB.of_grown hg (Nat.le_trans hb1 hb.size) (fun k hk => (h1.lt k hk).1))⟩
  rw [flat_snoc, ← List.append_assoc, List.length_append, ownNames_length, List.map_append]
  exact ho

/-- The map 'above': at each i below K it holds the step from i. -/
def MapIs (w : World) (Bm K : Nat) (us : List Int) : Prop :=
  ∃ (n : Nat) (D : DataW Unit), w.ownsMap Yba.prog 26 (plainElem Yba.prog 26) Bm n D ∧ n ≤ K ∧ IsMap D ∧ ∀ i : Nat, i < K → D.atKey (.int .i64 i) (.lit (.int .i64 0)) = .lit (.int .i64 (stepZ us i))

theorem law26 : Keyed Yba.prog 26 := int_keyed Yba.underlying26
theorem zero26 (w : World) : (zeroValue 26).run Yba.prog w = .ok (.int .i64 0) w := by kernel_rfl

theorem MapIs.block {w w' : World} {Bm K : Nat} {us : List Int} (h : MapIs w Bm K us) (hb : w'.heap[Bm]? = w.heap[Bm]?) : MapIs w' Bm K us := by
  obtain ⟨n, D, ⟨es, clock, h1, h2⟩, h3⟩ := h
  exact ⟨n, D, ⟨es, clock, by rw [hb]; exact h1, h2⟩, h3⟩

theorem MapIs.look {w : World} {Bm K : Nat} {us : List Int} (h : MapIs w Bm K us) (i : Int) (h0 : 0 ≤ i) (hK : i < K) (hw : K ≤ 100000) :
    (Instr.lookup 25 (.map (some Bm)) (.int .i64 i) false).run Yba.prog w = .ok (.int .i64 (stepZ us i)) w := by
  obtain ⟨n, D, hown, _, _, hat⟩ := h
  obtain ⟨k, rfl⟩ : ∃ k : Nat, i = k := ⟨i.toNat, by omega⟩
  obtain ⟨c, hrun, hc, _⟩ := hown.lookup_int law26 Yba.underlying25 Yba.underlying26 (zero26 w) (keyOf_int_mk Yba.underlying26 (WalkArith.wf_i64 (n := (k : Int)) (by omega)))
  rw [hat k (by omega)] at hc
  simp at hc
  rw [hrun, hc]
end Go.Proofs.Ybulklyc
