/-
  THE WALK of server.LawS0625BCallsOnce: one walk for every slice (nil or not) of at most 1024 bytes; giveBack and the closure are entered in place; the loop over the copy by one relation.
-/
import Derived.Test.YbulklxoRows
import Derived.WalkKit
import Derived.WalkSpells
import Derived.WalkLawsBesides
import Derived.Below
import Derived.Laws.EntriesVeiled
import Derived.Laws.CopyOwn
import Derived.Deep.OwnRows
import Derived.Deep.QuietTactic
import Derived.BigQuiet
namespace Go.Proofs.Ybulklxo.lawS0625BCallsOnce
open Go.RowKit
set_option linter.unusedVariables false

theorem info5 : (Yba.prog.info? 5).map (fun i => (i.zero, i.size, i.bytes)) = some (some (.int .u8 0), 1, 1) := by kernel_rfl
theorem size5 : (Yba.prog.info? 5).map (·.size) = some 1 := by kernel_rfl

theorem neq_nil (w : World) : (binOp BinOp.neq 1 .nilFunc .nilFunc).run Yba.prog w = .ok (.bool false) w := by kernel_rfl
theorem neq_func (fn : Fn) (first cap : Array Value) (w : World) : (binOp BinOp.neq 1 (.func fn first cap) .nilFunc).run Yba.prog w = .ok (.bool true) w := by kernel_rfl
theorem add_none (b off j : Nat) : (⟨b, off, none⟩ : Addr).add j = ⟨b, off + j, none⟩ := by unfold Addr.add; split <;> simp_all
theorem below4 (w2 : World) (o1 o2 o3 o4 : Obj) : Below w2.heap.size w2 ((((w2.alloc o1).alloc o2).alloc o3).alloc o4) :=
  ((((Below.refl _ w2).alloc (Nat.le_refl _) _).alloc (by simp) _).alloc (by simp; omega) _).alloc (by simp; omega) _

/-- What is known of the slice that came in: each of its elements lies in memory that was there. -/
def Holds (w : World) (B : Nat) (a3 : Option Addr) (len : Nat) (zs : List Int) : Prop :=
  ∀ j, j < len → ∃ b off, a3 = some ⟨b, off, none⟩ ∧ b < B ∧ w.cell? ⟨b, off + j, none⟩ = some (.int .u8 (zs.getD j 0))

theorem Holds.below {w w' : World} {B : Nat} {a3 : Option Addr} {len : Nat} {zs : List Int} (h : Holds w B a3 len zs) (hb : Below B w w') : Holds w' B a3 len zs := by
  intro j hj
  obtain ⟨b, off, h1, h2, h3⟩ := h j hj
  exact ⟨b, off, h1, h2, (hb.cell (p := ⟨b, off + j, none⟩) h2).trans h3⟩

set_option maxRecDepth 100000 in
set_option maxHeartbeats 1000000 in
theorem walk_short (a0 a1 : Bool) (a2 : Int) (a3 : Option Addr) (len cap : Nat) (zs : List Int) (w : World) (h2 : 0 ≤ a2) (h2' : a2 ≤ 255) (hl : len ≤ 1024)
    (hz : len ≤ zs.length) (hc0 : Holds w w.heap.size a3 len zs) :
    Calls Yba.prog 3 #[.bool a0, .bool a1, .int .u8 a2, .slice a3 len cap] w fun e w' => e = .returned (.bool true) ∧ Below w.heap.size w w' := by
  have hmf : ∀ (fn : Fn) (first cap : Array Value) (w : World), (Instr.makeFunc fn first cap).run Yba.prog w = .ok (.func fn first cap) w := fun _ _ _ _ => rfl
  have hmk := fun w => run_make_row' (P := Yba.prog) 22 5 (.int .u8 0) 1 Yba.underlying22 info5 rfl .i64 .i64 len (by omega) (by omega) w
  obtain ⟨cs, hcs⟩ : ∃ cs : List Value, cs = (zs.take len).map (.int .u8) := ⟨_, rfl⟩
  have hcl : cs.length = len := by rw [hcs]; simp; omega
  have hcg : ∀ j v, cs[j]? = some v → j < len ∧ v = .int .u8 (zs.getD j 0) := by
    intro j v hj
    have hjl : j < len := by rw [← hcl]; exact (List.getElem?_eq_some_iff.1 hj).1
    refine ⟨hjl, ?_⟩
    rw [hcs] at hj
    have hjz : j < zs.length := by omega
    simp [hjl, List.getElem?_eq_getElem hjz] at hj
    simp [← hj, hjz]
  have h1c : ∀ v ∈ cs, v.oneCell' = true := by intro v hv; rw [hcs, List.mem_map] at hv; obtain ⟨n, _, rfl⟩ := hv; rfl
  have HCS : Hid (cs = (zs.take len).map (.int .u8)) := hcs
  have HCL : Hid (cs.length = len) := hcl
  have HC : Hid (Holds w w.heap.size a3 len zs) := hc0
  clear hcs hcl hc0
  have hn1 := neq_nil
  have hn2 := neq_func
  go_enter Yba.func3, Yba.ntmps3
  go_wp2_with (refine wpList_copy_splice rfl (.tmp 24) (.tmp 25) 22 22 rfl 5 Yba.underlying22 size5 _ _ _ _ _ _ rfl rfl w.heap.size 0 (madeCells #[Value.int IntKind.u8 0] len).toList 5 (heap_alloc_new _ _) cs (by rw [HCL.out]; simp) ?hp ?hf h1c w.heap.size w ?hb (Nat.le_refl _) ?_)
  case hp =>
    intro hpos
    obtain ⟨b, off, e1, e2, _⟩ := HC.out 0 (by have := HCL.out; omega)
    refine ⟨_, e1, ?_⟩
    intro j v hj
    obtain ⟨g1, g2⟩ := hcg j v hj
    obtain ⟨b', off', e1', e2', e3'⟩ := HC.out j g1
    rw [e1] at e1'
    simp at e1'
    obtain ⟨rfl, rfl⟩ := e1'
    rw [add_none, g2]
    exact (((Below.refl w.heap.size w).alloc (Nat.le_refl _) _).cell (p := ⟨b, off + j, none⟩) e2).trans e3'
  case hf => rw [HCL.out]; simp [size_madeCells]
  case hb => exact (Below.refl _ _).alloc (Nat.le_refl _) _
  intro w2 HG2 hB2
  have hg2 : w2.heap[w.heap.size]? = some (.cells cs.toArray 5 (0, 0)) := by
    have h := HG2.out
    rw [show splice (madeCells #[Value.int IntKind.u8 0] len).toList 0 cs = cs from by
      unfold splice
      rw [HCL.out, List.drop_of_length_le (by simp [size_madeCells])]; simp] at h
    exact h
  have hsz : w.heap.size < w2.heap.size := lt_of_block hg2
  have hbuf : ∀ j, j < len → w2.cell? ⟨w.heap.size, j, none⟩ = some (.int .u8 (zs.getD j 0)) := by
    intro j hj
    simp only [World.cell?, hg2]
    simp [HCS.out, hj]
    rw [List.getElem?_eq_getElem (by omega)]; simp
  have HC2 : Hid (Holds w2 w.heap.size a3 len zs) := HC.out.below hB2
  clear hg2 HG2 hcg h1c hmk HC HCS
  cases a0 <;> cases a1
  all_goals go_wp2
  all_goals (go_end0; go_wp2; go_end0; go_wp2; try (go_end0; go_wp2))
  all_goals
    go_loopw [17] (fun i wr => ∃ k : Nat, k ≤ len ∧ i = .int .i64 k ∧ wr.cell? ⟨w2.heap.size + 1, 0, none⟩ = some (.pointer (some ⟨w2.heap.size, 0, none⟩)) ∧ wr.cell? ⟨w2.heap.size, 7, none⟩ = some (.slice (some ⟨w.heap.size, 0, none⟩) len len) ∧ (∀ j, j < len → wr.cell? ⟨w.heap.size, j, none⟩ = some (.int .u8 (zs.getD j 0))) ∧ Hid (Holds wr w.heap.size a3 len zs) ∧ Below w.heap.size w wr) (fun i _ => len - (intOf i).toNat)
    case atStart =>
      refine ⟨0, Nat.zero_le _, rfl, by go_simp, by go_simp, ?_, ?_, ?_⟩
      · intro j hj; rw [(below4 w2 _ _ _ _).cell (by exact hsz)]; exact hbuf j hj
      · exact HC2.out.below ((below4 w2 _ _ _ _).mono (Nat.le_of_lt hsz))
      · exact hB2.trans ((below4 w2 _ _ _ _).mono (Nat.le_of_lt hsz))
    case round =>
      obtain ⟨k, hk, rfl, r1, r2, r3, r4, r5⟩ := hrel
      by_cases hlt : k < len
      · obtain ⟨b, off, rfl, hx, q4⟩ := r4.out k hlt
        have q3 := r3 k hlt
        have R : Hid (∀ j, j < len → wr.cell? ⟨w.heap.size, j, none⟩ = some (.int .u8 (zs.getD j 0))) := r3
        clear r3 hbuf
        have hk1 : (0 : Int) ≤ (k : Int) := by omega
        have hk2 : (k : Int) < (len : Int) := by omega
        go_wp2
        go_quiet (fail)
        go_wp2
        go_roundw
        case rel => exact ⟨k + 1, by omega, by go_num, by simpa using r1, by simpa using r2, fun j hj => by simpa using R.out j hj, r4.out.below (below_drewN (Below.refl _ _) _), below_drewN r5 _⟩
        case measure => simp [intOf]; omega
      · go_wp2
        go_ret
        exact ⟨rfl, r5⟩

set_option maxRecDepth 100000 in
theorem walk_long (a0 a1 : Bool) (a2 : Int) (a3 : Option Addr) (len cap : Nat) (w : World) (hl : 1024 < len) :
    Calls Yba.prog 3 #[.bool a0, .bool a1, .int .u8 a2, .slice a3 len cap] w fun e w' => e = .returned (.bool true) ∧ Below w.heap.size w w' := by
  have hl' : (1024 : Int) < (len : Int) := by omega
  go_enter Yba.func3, Yba.ntmps3
  go_wp2
  go_ret
  exact ⟨rfl, Below.refl _ _⟩
end Go.Proofs.Ybulklxo.lawS0625BCallsOnce
