/-
  THE CONTRACTS of slices.Clone and slices.Equal in this dump: what the law of the chain wants of them.
-/
import Derived.Test.YbulklycLeaf
import Derived.Deep.AppendLies
import Derived.Lib.SliceRun
namespace Go.Proofs.Ybulklyc
open Go.RowKit Chain
set_option linter.unusedVariables false

theorem info9 : (Yba.prog.info? 9).map (fun i => (i.zero, i.size, i.bytes)) = some (some (.string ⟨#[]⟩), 1, 16) := by kernel_rfl
theorem info26 : (Yba.prog.info? 26).map (fun i => (i.zero, i.size, i.bytes)) = some (some (.int .i64 0), 1, 8) := by kernel_rfl

/-- What is known of a slice of strings that came in. -/
def StrsAre (w : World) (a : Option Addr) (len cap : Nat) (ss : List ByteArray) : Prop :=
  ss.length = len ∧ ((a = none ∧ len = 0 ∧ cap = 0) ∨ ∃ ad : Addr, a = some ad ∧ ∀ j s, ss[j]? = some s → w.cell? (ad.add j) = some (.string s))

theorem strs_one (ss : List ByteArray) : ∀ u ∈ ss.map Value.string, u.oneCell' = true := by
  intro u hu; rw [List.mem_map] at hu; obtain ⟨s, _, rfl⟩ := hu; rfl

set_option maxRecDepth 100000 in
set_option maxHeartbeats 400000 in
theorem clone_any (a : Option Addr) (len cap : Nat) (ss : List ByteArray) (w : World) (hlen : len ≤ 1024) (hs : StrsAre w a len cap ss) :
    Calls Yba.prog 9 #[.slice a len cap] w fun e w' => ∃ v, e = .returned v ∧ w'.ownsRow w.heap.size 9 1 v len (ss.map Value.string) ∧ Below w.heap.size w w' := by
  obtain ⟨hl, hs⟩ := hs
  have heq := fun (w : World) (a : Option Addr) (n c : Nat) => Lib.run_eql_slice_nil (P := Yba.prog) w 22 9 a n c 0 0 Yba.underlying22
  rcases hs with ⟨rfl, rfl, rfl⟩ | ⟨ad, rfl, hc⟩
  · obtain rfl : ss = [] := List.eq_nil_of_length_eq_zero hl
    go_enter Yba.func9, Yba.ntmps9
    go_wp2
    go_ret
    exact ⟨_, rfl, World.ownsRow_nil _ _ _ _, Below.refl _ _⟩
  · obtain ⟨i0, hi, hz0, hz1, hz2⟩ := info_parts info9
    have HL : Hid (ss.length = len) := hl
    have HC : Hid (∀ j s, ss[j]? = some s → w.cell? (ad.add j) = some (.string s)) := hc
    clear hl hc
    go_enter Yba.func9, Yba.ntmps9
    go_wp2_with (at_builtin; refine wpList_append_own _ rfl (.tmp 5) (.tmp 6) 22 rfl w.heap.size 9 i0 (.string ⟨#[]⟩) 1 16 Yba.underlying22 hi hz0 hz1 hz2 rfl (by decide) _ 0 [] rfl ?ho ad len cap (ss.map Value.string) rfl ?hn ?hc (strs_one ss) ?h63 ?hb ?hbase ?_)
    case ho => exact World.ownsRow_made w #[] 0 (Nat.le_refl _) (by unfold maxLen; omega) (by simp)
    case hn => rw [List.length_map, HL.out, Nat.mul_one]
    case hc => 
      intro j u hu
      rw [List.getElem?_map] at hu
      obtain ⟨s, hs1, rfl⟩ := Option.map_eq_some_iff.1 hu
      exact cell_later ((Below.refl _ w).alloc (Nat.le_refl _) _) (HC.out j s hs1)
    case h63 => unfold maxLen; omega
    case hb => omega
    case hbase => simp
    intro v' w1 hown hgrow _
    go_wp2
    go_ret
    exact ⟨v', rfl, hown, ((Below.refl _ _).alloc (Nat.le_refl _) _).grown hgrow (by simp) (fun k hk => by simp [Value.ownBlock] at hk; omega)⟩

/-- A slice value that reads as the values V, element by element. -/
def Reads (w : World) (v : Value) (n : Nat) (V : Nat → Value) : Prop :=
  ∃ a c, v = .slice a n c ∧ ∀ j, j < n → ∃ b off, a = some ⟨b, off, none⟩ ∧ w.cell? ⟨b, off + j, none⟩ = some (V j)

theorem reads_of_owns {w : World} {base : Nat} {e : TypeId} {v : Value} {n : Nat} {xs : List Value} (h : w.ownsRow base e 1 v n xs) (d : Value) : Reads w v n (fun j => xs.getD j d) := by
  have hlen : xs.length = n := by have := h.1; omega
  rcases h.2 with ⟨rfl, rfl⟩ | ⟨g, cap, cur, rfl, _, hg, _⟩
  · exact ⟨none, 0, rfl, fun j hj => by omega⟩
  · refine ⟨_, cap, rfl, fun j hj => ⟨g, 0, rfl, ?_⟩⟩
    have hc := h.cells (g := g) rfl j xs[j] (by rw [List.getElem?_eq_getElem (by omega)])
    have hadd : (⟨g, 0, none⟩ : Addr).add j = ⟨g, 0 + j, none⟩ := by unfold Addr.add; split <;> simp_all
    rw [hadd] at hc
    rw [hc]; simp [show j < xs.length by omega]

set_option maxRecDepth 100000 in
set_option maxHeartbeats 400000 in
theorem equalS_any (v1 v2 : Value) (n : Nat) (S : Nat → ByteArray) (w : World) (hn : n ≤ 100000) (h1 : Reads w v1 n (fun j => .string (S j))) (h2 : Reads w v2 n (fun j => .string (S j))) :
    Calls Yba.prog 10 #[v1, v2] w fun e w' => e = .returned (.bool true) ∧ ∃ nq, w' = w.drewN nq := by
  obtain ⟨a1, c1, rfl, h1⟩ := h1
  obtain ⟨a2, c2, rfl, h2⟩ := h2
  have H1 : Hid (∀ j, j < n → ∃ b off, a1 = some ⟨b, off, none⟩ ∧ w.cell? ⟨b, off + j, none⟩ = some (.string (S j))) := h1
  have H2 : Hid (∀ j, j < n → ∃ b off, a2 = some ⟨b, off, none⟩ ∧ w.cell? ⟨b, off + j, none⟩ = some (.string (S j))) := h2
  clear h1 h2
  go_enter Yba.func10, Yba.ntmps10
  go_wp2
  go_loopw [13] (fun i wr => ∃ k : Nat, k ≤ n ∧ i = .int .i64 k ∧ ∃ nq, wr = w.drewN nq) (fun i _ => n - (intOf i).toNat)
  case atStart => exact ⟨0, Nat.zero_le _, rfl, 0, rfl⟩
  case round =>
    obtain ⟨k, hk, rfl, nq, rfl⟩ := hrel
    by_cases hlt : k < n
    · obtain ⟨b1, o1, rfl, q1⟩ := H1.out k hlt
      obtain ⟨b2, o2, rfl, q2⟩ := H2.out k hlt
      have hk1 : (0 : Int) ≤ (k : Int) := by omega
      have hk2 : (k : Int) < (n : Int) := by omega
      go_wp2
      go_quiet (fail)
      go_wp2
      go_roundw
      case rel => exact ⟨k + 1, by omega, by go_num, _, rfl⟩
      case measure => simp [intOf]; omega
    · go_wp2
      go_ret
      exact ⟨rfl, _, rfl⟩
set_option maxRecDepth 100000 in
set_option maxHeartbeats 400000 in
theorem equalI_any (v1 v2 : Value) (n : Nat) (S : Nat → Int) (w : World) (hn : n ≤ 100000) (h1 : Reads w v1 n (fun j => .int .i64 (S j))) (h2 : Reads w v2 n (fun j => .int .i64 (S j))) :
    Calls Yba.prog 11 #[v1, v2] w fun e w' => e = .returned (.bool true) ∧ ∃ nq, w' = w.drewN nq := by
  obtain ⟨a1, c1, rfl, h1⟩ := h1
  obtain ⟨a2, c2, rfl, h2⟩ := h2
  have H1 : Hid (∀ j, j < n → ∃ b off, a1 = some ⟨b, off, none⟩ ∧ w.cell? ⟨b, off + j, none⟩ = some (.int .i64 (S j))) := h1
  have H2 : Hid (∀ j, j < n → ∃ b off, a2 = some ⟨b, off, none⟩ ∧ w.cell? ⟨b, off + j, none⟩ = some (.int .i64 (S j))) := h2
  clear h1 h2
  go_enter Yba.func11, Yba.ntmps11
  go_wp2
  go_loopw [13] (fun i wr => ∃ k : Nat, k ≤ n ∧ i = .int .i64 k ∧ ∃ nq, wr = w.drewN nq) (fun i _ => n - (intOf i).toNat)
  case atStart => exact ⟨0, Nat.zero_le _, rfl, 0, rfl⟩
  case round =>
    obtain ⟨k, hk, rfl, nq, rfl⟩ := hrel
    by_cases hlt : k < n
    · obtain ⟨b1, o1, rfl, q1⟩ := H1.out k hlt
      obtain ⟨b2, o2, rfl, q2⟩ := H2.out k hlt
      have hk1 : (0 : Int) ≤ (k : Int) := by omega
      have hk2 : (k : Int) < (n : Int) := by omega
      go_wp2
      go_quiet (fail)
      go_wp2
      go_roundw
      case rel => exact ⟨k + 1, by omega, by go_num, _, rfl⟩
      case measure => simp [intOf]; omega
    · go_wp2
      go_ret
      exact ⟨rfl, _, rfl⟩
end Go.Proofs.Ybulklyc
