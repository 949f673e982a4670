/-
  THE CONTRACTS of fmt.Errorf at the one format of this dump, of zzs0625agiven and of missing.
-/
import Derived.Test.YbulklxoFmtFacts
import Derived.WalkKit
import Derived.WalkSpells
import Derived.WalkLawsBesides
import Derived.Below
import Derived.WalkSmall
import Derived.Deep.OwnRows
namespace Go.Proofs.YbulklxoFmt
open Go.RowKit Go.Extern.Stop Go.Stop Go.Extern
set_option linter.unusedVariables false
attribute [local go_sem] call8 fguard fmt0 fmt0r op9_115 op9_115w strict9 ptr34 elem34 isError34

theorem info4 : (Ybaf.prog.info? 4).map (fun i => (i.zero, i.size, i.bytes)) = some (some (.bool false), 1, 1) := by kernel_rfl

set_option maxHeartbeats 400000 in
theorem errorf_any (F : Interp) (s : ByteArray) (a : Addr) (w : World) (hF : F.answers w.tape) (hc : w.cell? a = some (.iface 9 (.string s))) :
    Calls Ybaf.prog 7 #[.string ⟨#[105, 116, 32, 104, 97, 115, 32, 110, 111, 32, 37, 115]⟩, .slice (some a) 1 1] w fun e w' => (∃ a', e = .returned (.iface 34 (.pointer (some a')))) ∧ Below w.heap.size w w' := by
  have hF' := answers_open hF
  go_enter Ybaf.func7, Ybaf.ntmps7
  go_wp2
  go_ret
  exact ⟨⟨_, rfl⟩, ((Below.refl _ _).alloc (Nat.le_refl _) _).drew⟩

/-- A row of bools of the call's own: block g holds just bs. -/
def Row (w : World) (g : Nat) (bs : List Bool) : Prop := w.heap[g]? = some (.cells (bs.map Value.bool).toArray 4 (0, 0))

theorem Row.cell {w : World} {g : Nat} {bs : List Bool} (h : Row w g bs) (k : Nat) (hk : k < bs.length) : w.cell? ⟨g, k, none⟩ = some (.bool bs[k]) := by
  simp only [World.cell?, show w.heap[g]? = _ from h]; simp [hk]
theorem Row.free {w : World} {g : Nat} {bs : List Bool} (h : Row w g bs) (k : Nat) : w.frozen? ⟨g, k, none⟩ = false := by
  simp [World.frozen?, show w.heap[g]? = _ from h]
theorem Row.lt {w : World} {g : Nat} {bs : List Bool} (h : Row w g bs) : g < w.heap.size := lt_of_block h
theorem Row.set {w : World} {g : Nat} {bs : List Bool} (h : Row w g bs) (k : Nat) (b : Bool) : Row (w.setCell ⟨g, k, none⟩ (.bool b)) g (bs.set k b) := by
  have hg := h.lt
  unfold Row at h ⊢
  simp only [World.setCell, Array.getElem?_modify]
  rw [if_pos trivial, h]
  simp [List.map_set]
theorem Row.below {w w' : World} {g : Nat} {bs : List Bool} (h : Row w g bs) {B : Nat} (hb : Below B w w') (hg : g < B) : Row w' g bs := by
  unfold Row; rw [hb.block g hg]; exact h

/-- Each element of the slice of bools that came in is a bool, in memory that was there. -/
def Bools (w : World) (B : Nat) (a : Option Addr) (len : Nat) : Prop := ∀ j, j < len → ∃ b off v, a = some ⟨b, off, none⟩ ∧ b < B ∧ w.cell? ⟨b, off + j, none⟩ = some (.bool v)
def Strs (w : World) (B : Nat) (a : Option Addr) (len : Nat) : Prop := ∀ j, j < len → ∃ b off s, a = some ⟨b, off, none⟩ ∧ b < B ∧ w.cell? ⟨b, off + j, none⟩ = some (.string s)
theorem Bools.below {w w' : World} {B B' : Nat} {a : Option Addr} {len : Nat} (h : Bools w B a len) (hb : Below B' w w') (hB : B ≤ B') : Bools w' B a len := by
  intro j hj
  obtain ⟨b, off, v, h1, h2, h3⟩ := h j hj
  exact ⟨b, off, v, h1, h2, (hb.cell (p := ⟨b, off + j, none⟩) (by exact Nat.lt_of_lt_of_le h2 hB)).trans h3⟩
theorem Strs.below {w w' : World} {B B' : Nat} {a : Option Addr} {len : Nat} (h : Strs w B a len) (hb : Below B' w w') (hB : B ≤ B') : Strs w' B a len := by
  intro j hj
  obtain ⟨b, off, v, h1, h2, h3⟩ := h j hj
  exact ⟨b, off, v, h1, h2, (hb.cell (p := ⟨b, off + j, none⟩) (by exact Nat.lt_of_lt_of_le h2 hB)).trans h3⟩

theorem made_row (w : World) (n : Nat) : Row (w.alloc (.cells (madeCells #[Value.bool false] n) 4)) w.heap.size (List.replicate n false) := by
  unfold Row
  rw [heap_alloc_new]
  congr 2
  apply Array.ext
  · simp [size_madeCells]
  · intro i h1 h2
    simp [madeCells, Nat.mod_one]

set_option maxRecDepth 100000 in
set_option maxHeartbeats 1000000 in
theorem given_any (a0 a1 : Option Addr) (len0 cap0 len1 cap1 : Nat) (w : World) (hl : len0 ≤ 1024) (hl1 : len1 ≤ 9223372036854775807) (hb : Bools w w.heap.size a1 len1) :
    Calls Ybaf.prog 5 #[.slice a0 len0 cap0, .slice a1 len1 cap1] w fun e w' => e = .returned (.slice (some ⟨w.heap.size, 0, none⟩) len0 len0) ∧ (∃ bs : List Bool, bs.length = len0 ∧ Row w' w.heap.size bs) ∧ Below w.heap.size w w' := by
  have hmk := fun w => run_make_row' (P := Ybaf.prog) 23 4 (.bool false) 1 Ybaf.underlying23 info4 rfl .i64 .i64 len0 (by omega) (by omega) w
  have HB : Hid (Bools w w.heap.size a1 len1) := hb
  clear hb
  go_enter Ybaf.func5, Ybaf.ntmps5
  go_wp2
  clear hmk
  go_loopw [6] (fun i wr => ∃ k : Nat, k ≤ len0 ∧ i = .int .i64 k ∧ Hid (∃ bs : List Bool, bs.length = len0 ∧ Row wr w.heap.size bs) ∧ Below w.heap.size w wr) (fun i _ => len0 - (intOf i).toNat)
  case atStart => exact ⟨0, Nat.zero_le _, rfl, ⟨_, List.length_replicate, made_row w len0⟩, (Below.refl _ _).alloc (Nat.le_refl _) _⟩
  case round =>
    obtain ⟨k, hk, rfl, r1, r2⟩ := hrel
    obtain ⟨bs, hbs, hrow⟩ := r1.out
    by_cases hlt : k < len0
    · obtain ⟨v0, c1⟩ : ∃ v, wr.cell? ⟨w.heap.size, k, none⟩ = some (.bool v) := ⟨_, hrow.cell k (by omega)⟩
      have c2 := hrow.free k
      have hk1 : (0 : Int) ≤ (k : Int) := by omega
      have hk2 : (k : Int) < (len0 : Int) := by omega
      have HR : Hid (bs.length = len0 ∧ Row wr w.heap.size bs) := ⟨hbs, hrow⟩
      clear hbs hrow r1
      by_cases hlt1 : k < len1
      · obtain ⟨b, off, v, rfl, hx, q4⟩ := (HB.out.below r2 (Nat.le_refl _)) k hlt1
        have hk3 : (k : Int) < (len1 : Int) := by omega
        go_wp2
        go_roundw
        case rel => exact ⟨k + 1, by omega, by go_num, ⟨bs.set k v, by simp [HR.out.1], HR.out.2.set k v⟩, r2.setCell (Nat.le_refl _) _⟩
        case measure => simp [intOf]; omega
      · have hk3 : ¬ (k : Int) < (len1 : Int) := by omega
        go_wp2
        go_roundw
        case rel => exact ⟨k + 1, by omega, by go_num, ⟨bs.set k false, by simp [HR.out.1], HR.out.2.set k false⟩, r2.setCell (Nat.le_refl _) _⟩
        case measure => simp [intOf]; omega
    · go_wp2
      go_ret
      exact ⟨rfl, r1.out, r2⟩

/-- All of them are true. -/
def allB (bs : List Bool) : Bool := bs.all id
theorem allB_snoc (bs : List Bool) (k : Nat) (hk : k < bs.length) : allB (bs.take (k + 1)) = (allB (bs.take k) && bs[k]) := by
  unfold allB; rw [List.take_succ_eq_append_getElem hk, List.all_append]; simp only [List.all_cons, List.all_nil, Bool.and_true, id]
theorem allB_false (bs : List Bool) (k : Nat) (hk : k < bs.length) (h : bs[k] = false) : allB bs = false := by
  unfold allB; rw [List.all_eq_false]; exact ⟨bs[k], List.getElem_mem hk, by simp [h]⟩

set_option maxRecDepth 100000 in
set_option maxHeartbeats 1000000 in
theorem missing_any (F : Interp) (a0 : Option Addr) (len0 cap0 g : Nat) (bs : List Bool) (w : World) (hF : F.answers w.tape) (hl : len0 ≤ 1024) (hbl : bs.length = len0) (hrow : Row w g bs) (hb : Strs w w.heap.size a0 len0) :
    Calls Ybaf.prog 6 #[.slice a0 len0 cap0, .slice (some ⟨g, 0, none⟩) len0 len0] w fun e w' => ((allB bs = true ∧ e = .returned .nilIface) ∨ (allB bs = false ∧ ∃ a', e = .returned (.iface 34 (.pointer (some a'))))) ∧ Below w.heap.size w w' := by
  have HB : Hid (Strs w w.heap.size a0 len0) := hb
  have HR : Hid (Row w g bs) := hrow
  have HL : Hid (bs.length = len0) := hbl
  clear hb hrow hbl
  go_enter Ybaf.func6, Ybaf.ntmps6
  go_wp2
  go_loop [9] (fun i => ∃ k : Nat, k ≤ len0 ∧ i = .int .i64 k ∧ Hid (allB (bs.take k) = true)) (fun i => len0 - (intOf i).toNat)
  case atStart => exact ⟨0, Nat.zero_le _, rfl, by rfl⟩
  case round =>
    obtain ⟨k, hk, rfl, r1⟩ := hrel
    by_cases hlt : k < len0
    · have hkb : k < bs.length := by have := HL.out; omega
      have c1 := HR.out.cell k hkb
      obtain ⟨b, off, s, rfl, hx, q4⟩ := HB.out k hlt
      have hk1 : (0 : Int) ≤ (k : Int) := by omega
      have hk2 : (k : Int) < (len0 : Int) := by omega
      cases hv : bs[k] with
      | true =>
        rw [hv] at c1
        have HV : Hid (bs[k] = true) := hv
        clear hv
        go_wp2_with fail
        go_round
        case rel => exact ⟨k + 1, by omega, by go_num, by unfold Hid; rw [allB_snoc _ _ hkb, HV.out, r1.out]; rfl⟩
        case measure => simp [intOf]; omega
      | false =>
        rw [hv] at c1
        have HV : Hid (bs[k] = false) := hv
        clear hv
        go_wp2_with fail
        refine (errorf_any F s _ _ (show F.answers (w.alloc _).tape from hF) ?_).mono ?_
        · go_simp
        · rintro e w' ⟨⟨a', rfl⟩, hb'⟩
          go_wp2_with fail
          go_ret
          refine ⟨.inr ⟨allB_false bs k hkb HV.out, a', rfl⟩, ?_⟩
          exact ((Below.refl _ _).alloc (Nat.le_refl _) _).trans (hb'.mono (by simp))
    · have hkl : k = len0 := by omega
      go_wp2_with fail
      go_ret
      refine ⟨.inl ⟨?_, rfl⟩, Below.refl _ _⟩
      have h1 := r1.out
      rw [List.take_of_length_le (by rw [HL.out]; omega)] at h1
      exact h1
end Go.Proofs.YbulklxoFmt
