/-
  THE CONTRACTS of headReader.string, and the rows of bytes that the laws make.
-/
import Derived.Test.YbulklzsDoorString
import Derived.Lib.AppendStr
import Derived.Laws.AppendOwnNone
import Derived.Laws.CopyOwn
import Derived.Laws.EntriesVeiled
import Derived.Deep.OwnRows
import Derived.Deep.QuietTactic
import Derived.BigQuiet
namespace Go.Proofs.YbulklzsDoor
open Go.RowKit
set_option linter.unusedVariables false

theorem string_bad {R : Nat} {a : Option Addr} {n c : Nat} {ev E : Value} {l : List UInt8} {w : World} {T : TypeId} {p : Value} (hE : E = .iface T p) (hR : R ≠ 0) (hr : Rd w R a n c ev l) (hg : w.cell? ⟨0, 0, none⟩ = some E)
    (hev : ev = .nilIface ∨ ∃ t q, ev = .iface t q) (hbad : ev ≠ .nilIface ∨ (Lib.uvarintDec l).2 ≤ 0) (hc63 : c ≤ 9223372036854775807) :
    Calls Ybad.prog 6 #[.pointer (some ⟨R, 0, none⟩)] w fun e w' => e = .returned (.string ⟨#[]⟩) ∧ (∃ a' c', Rd w' R a' n c' E l) ∧ w.grownBy w' (some R) := by
  have h1 := cnt_bad R a n c ev E l w T p hE hr hg hev hbad hc63
  refine (str_of R a n c 0 E l w _ h1 (hr.err E) (Nat.zero_le _)).mono ?_
  rintro e w' ⟨rfl, rfl⟩
  exact ⟨rfl, ⟨_, _, by simpa using (hr.err E).move 0 (Nat.zero_le _)⟩, (grown_set _ _ _ _).trans (grown_set _ _ _ _)⟩

theorem string_over {R : Nat} {a : Option Addr} {n c k : Nat} {E : Value} {l : List UInt8} {w : World} {T : TypeId} {p : Value} (hE : E = .iface T p) (hR : R ≠ 0) (hr : Rd w R a n c .nilIface l) (hg : w.cell? ⟨0, 0, none⟩ = some E)
    (hk : (Lib.uvarintDec l).2 = (k : Int)) (hk1 : 1 ≤ k) (hov : n - k < (Lib.uvarintDec l).1) (hc63 : c ≤ 9223372036854775807) :
    Calls Ybad.prog 6 #[.pointer (some ⟨R, 0, none⟩)] w fun e w' => e = .returned (.string ⟨#[]⟩) ∧ (∃ a' c', Rd w' R a' (n - k) c' E (l.drop k)) ∧ w.grownBy w' (some R) := by
  have hle := dec_le l
  have hkn : k ≤ n := by rw [hk, hr.2.1.1] at hle; omega
  have h1 := cnt_over R a n c k E l w T p hE hR hr hg hk hk1 hov hc63
  have hr2 := (hr.move k hkn).err E
  refine (str_of R _ _ _ 0 E _ w _ h1 hr2 (Nat.zero_le _)).mono ?_
  rintro e w' ⟨rfl, rfl⟩
  exact ⟨rfl, ⟨_, _, by simpa using hr2.move 0 (Nat.zero_le _)⟩, ((grown_set _ _ _ _).trans (grown_set _ _ _ _)).trans (grown_set _ _ _ _)⟩

theorem string_ok {R : Nat} {a : Option Addr} {n c k : Nat} {l : List UInt8} {w : World} (hr : Rd w R a n c .nilIface l)
    (hk : (Lib.uvarintDec l).2 = (k : Int)) (hk1 : 1 ≤ k) (hov : (Lib.uvarintDec l).1 ≤ n - k) (hc63 : c ≤ 9223372036854775807) :
    Calls Ybad.prog 6 #[.pointer (some ⟨R, 0, none⟩)] w fun e w' => e = .returned (.string ⟨((l.drop k).take (Lib.uvarintDec l).1).toArray⟩) ∧ (∃ a' c', Rd w' R a' (n - k - (Lib.uvarintDec l).1) c' .nilIface ((l.drop k).drop (Lib.uvarintDec l).1)) ∧ w.grownBy w' (some R) := by
  have hle := dec_le l
  have hkn : k ≤ n := by rw [hk, hr.2.1.1] at hle; omega
  have h1 := cnt_ok R a n c k l w hr hk hk1 hov hc63
  have hr2 := hr.move k hkn
  refine (str_of R _ _ _ (Lib.uvarintDec l).1 _ _ w _ h1 hr2 hov).mono ?_
  rintro e w' ⟨rfl, rfl⟩
  exact ⟨rfl, ⟨_, _, hr2.move _ hov⟩, (grown_set _ _ _ _).trans (grown_set _ _ _ _)⟩

/-- What is encoded is what is decoded, for the lengths that the law lets by. -/
theorem dec_enc (x : Nat) (hx : x < 16384) (r : List UInt8) : Lib.uvarintDec (Lib.uvarint x ++ r) = (x, ((Lib.uvarint x).length : Int)) := by
  by_cases h : x < 128
  · rw [Lib.uvarint_small h]
    have hx8 : (x.toUInt8).toNat = x := by simp; omega
    simp [Lib.uvarintDec, Lib.uvarintFrom, hx8, h]
  · rw [Lib.uvarint_big (by omega), Lib.uvarint_small (show x / 128 < 128 by omega)]
    have h1 : ((x % 128 + 128).toUInt8).toNat = x % 128 + 128 := by simp; omega
    have h2 : ((x / 128).toUInt8).toNat = x / 128 := by simp; omega
    generalize (x % 128 + 128).toUInt8 = b1 at h1 ⊢
    generalize (x / 128).toUInt8 = b2 at h2 ⊢
    have h3 : ¬ b1.toNat < 128 := by omega
    have h4 : b2.toNat < 128 := by omega
    have h5 : b1.toNat % 128 + b2.toNat * 128 = x := by omega
    simp [Lib.uvarintDec, Lib.uvarintFrom, h3, h4, h5]

theorem info5 : (Ybad.prog.info? 5).map (fun i => (i.zero, i.size, i.bytes)) = some (some (.int .u8 0), 1, 1) := by kernel_rfl
theorem size5 : (Ybad.prog.info? 5).map (·.size) = some 1 := by kernel_rfl

theorem cells_str (s : ByteArray) : Lib.strCells s = Lib.byteCells s.data.toList := rfl
theorem cells_app (a b : List UInt8) : Lib.byteCells a ++ Lib.byteCells b = Lib.byteCells (a ++ b) := by unfold Lib.byteCells; rw [← List.map_append]
theorem size_data (s : ByteArray) : s.data.toList.length = s.size := Array.length_toList
theorem byteCells_one (l : List UInt8) : ∀ u ∈ Lib.byteCells l, u.oneCell' = true := by
  intro u hu; unfold Lib.byteCells at hu; rw [List.mem_map] at hu; obtain ⟨s, _, rfl⟩ := hu; rfl

/-- A row that the call owns, as bytes. -/
theorem cellB_owns {w : World} {base : Nat} {v : Value} {n : Nat} {l : List UInt8} (h : w.ownsRow base 5 1 v n (Lib.byteCells l)) : ∃ a c, v = .slice a n c ∧ CellB w a n l ∧ n ≤ c ∧ c ≤ 9223372036854775807 ∧ (∀ ad : Addr, a = some ad → 0 < n → base ≤ ad.block ∧ ad.block < w.heap.size) := by
  have hlen : l.length = n := by have := h.1; rw [Lib.byteCells_length] at this; omega
  have h' := h
  rcases h.2 with ⟨rfl, rfl⟩ | ⟨g, cap, cur, rfl, hb, hg, h1, h2, _⟩
  · exact ⟨none, 0, rfl, ⟨hlen, fun j b hj => by have := (List.getElem?_eq_some_iff.1 hj).1; omega⟩, by omega, by omega, fun ad hh => by cases hh⟩
  · refine ⟨_, cap, rfl, ⟨hlen, fun j b hj => ⟨g, 0, rfl, ?_⟩⟩, h1, by unfold maxLen at h2; omega, ?_⟩
    · have hc := h'.cells (g := g) rfl j (.int .u8 b.toNat) (by unfold Lib.byteCells; rw [List.getElem?_map, hj]; rfl)
      have hadd : (⟨g, 0, none⟩ : Addr).add j = ⟨g, 0 + j, none⟩ := by unfold Addr.add; split <;> simp_all
      rw [hadd] at hc
      exact hc
    · intro ad ha hn
      simp at ha
      subst ha
      exact ⟨hb, lt_of_block hg⟩

set_option maxRecDepth 100000 in
theorem trip_long (s : ByteArray) (a1 : Option Addr) (n1 c1 : Nat) (pre : Bool) (w : World) (hl : 4096 < s.size ∨ 4096 < n1) :
    Calls Ybad.prog 3 #[.string s, .slice a1 n1 c1, .bool pre] w fun e w' => e = .returned (.bool true) ∧ Below w.heap.size w w' := by
  by_cases h0 : 4096 < s.size
  · have h0' : (4096 : Int) < (s.size : Int) := by omega
    go_enter Ybad.func3, Ybad.ntmps3
    go_wp2
    go_ret
    exact ⟨rfl, Below.refl _ _⟩
  · have h0' : ¬ (4096 : Int) < (s.size : Int) := by omega
    have h1' : (4096 : Int) < (n1 : Int) := by omega
    clear hl
    go_enter Ybad.func3, Ybad.ntmps3
    go_wp2
    go_ret
    exact ⟨rfl, Below.refl _ _⟩


/-- 'append(b, x...)' on bytes, x nil or not: a row of the call's own. -/
theorem append_bytes {ops : Array Oper} {rest : List Oper} {o : Oper} {a : Act} {Q : Exit → Act → World → Prop} {w w0 : World} (hgd : o.guard = none) (s x : Operand)
    (ho : o.op = .call { callee := .builtin .append, args := #[s, x], argTypes := #[22, 22] }) (base : Nat) (v : Value) (n : Nat) (l : List UInt8) (hs : a.eval s = v) (hown : w.ownsRow base 5 1 v n (Lib.byteCells l))
    (a1 : Option Addr) (n1 c1 : Nat) (t : List UInt8) (hx : a.eval x = .slice a1 n1 c1) (ht : CellB w a1 n1 t) (hnil : a1 = none → c1 = 0) (hN : n + n1 ≤ 10000) (hB : Below base w0 w) (hbase : base ≤ w.heap.size)
    (h : ∀ a3 c3 w', CellB w' a3 (n + n1) (l ++ t) → n + n1 ≤ c3 → c3 ≤ 9223372036854775807 → (∀ ad : Addr, a3 = some ad → 0 < n + n1 → base ≤ ad.block ∧ ad.block < w'.heap.size) → Below base w0 w' → wpList Ybad.prog ops Q rest (a.put o.dst (.slice a3 (n + n1) c3)) w') :
    wpList Ybad.prog ops Q (o :: rest) a w := by
  obtain ⟨i5, hi5, hz0, hz1, hz2⟩ := info_parts info5
  cases a1 with
  | none =>
    obtain rfl : n1 = 0 := by
      by_cases h : 0 < n1
      · obtain ⟨g, o, h1, _⟩ := ht.at h; cases h1
      · omega
    obtain rfl : c1 = 0 := hnil rfl
    obtain rfl : t = [] := List.eq_nil_of_length_eq_zero ht.1
    refine wpList_append_own_none hgd s x 22 ho base 5 i5 1 Ybad.underlying22 hi5 v _ _ hs hown hx ?_
    obtain ⟨a3, c3, hv, hcb, hnc, hc63, hblk⟩ := cellB_owns hown
    rw [hv]
    exact h a3 c3 w (by simpa using hcb) hnc hc63 hblk hB
  | some ad =>
    have hct : ∀ j u, (Lib.byteCells t)[j]? = some u → w.cell? (ad.add j) = some u := by
      intro j u hj
      unfold Lib.byteCells at hj
      rw [List.getElem?_map] at hj
      obtain ⟨b, hb, rfl⟩ := Option.map_eq_some_iff.1 hj
      obtain ⟨g, o, h1, h2⟩ := ht.2 j b hb
      simp at h1
      subst h1
      have hadd : (⟨g, o, none⟩ : Addr).add j = ⟨g, o + j, none⟩ := by unfold Addr.add; split <;> simp_all
      rw [hadd]
      exact h2
    have htl := ht.1
    refine wpList_append_own _ hgd s x 22 ho base 5 i5 (.int .u8 0) 1 1 Ybad.underlying22 hi5 hz0 hz1 hz2 rfl (by decide) v _ _ hs hown ad n1 c1 (Lib.byteCells t) hx (by rw [Lib.byteCells_length, htl, Nat.mul_one]) hct (byteCells_one t) (by unfold maxLen; omega) (by omega) hbase ?_
    intro v3 w3 ho3 hg3 _
    rw [cells_app] at ho3
    have hB3 : Below base w0 w3 := hB.grown hg3 hbase (fun k hk => (hown.lt k hk).1)
    obtain ⟨a3, c3, hv, hcb, hnc, hc63, hblk⟩ := cellB_owns ho3
    rw [hv]
    exact h a3 c3 w3 hcb hnc hc63 hblk hB3

/-- 'copy(x, b)' into a row just made, of b's own length. -/
theorem copy_bytes {ops : Array Oper} {rest : List Oper} {o : Oper} {a : Act} {Q : Exit → Act → World → Prop} {w w0 : World} {B : Nat} (hgd : o.guard = none) (d s : Operand)
    (ho : o.op = .call { callee := .builtin .copy, args := #[d, s], argTypes := #[22, 22] }) (g n : Nat) (sp : Option Addr) (sc : Nat) (l : List UInt8) (hd : a.eval d = .slice (some ⟨g, 0, none⟩) n n) (hs : a.eval s = .slice sp n sc)
    (hg : w.heap[g]? = some (.cells (madeCells #[.int .u8 0] n) 5 (0, 0))) (hl : CellB w sp n l) (hlt : ∀ ad : Addr, sp = some ad → 0 < n → ad.block < g) (hB : Below B w0 w) (hBg : B ≤ g)
    (h : ∀ w', CellB w' (some ⟨g, 0, none⟩) n l → CellB w' sp n l → g < w'.heap.size → Below B w0 w' → Below g w w' → wpList Ybad.prog ops Q rest (a.put o.dst (goInt n)) w') :
    wpList Ybad.prog ops Q (o :: rest) a w := by
  have hlen : (Lib.byteCells l).length = n := by rw [Lib.byteCells_length, hl.1]
  refine wpList_copy_splice hgd d s 22 22 ho 5 Ybad.underlying22 size5 _ _ _ _ _ _ hd hs g 0 (madeCells #[Value.int IntKind.u8 0] n).toList 5 hg (Lib.byteCells l) (by rw [hlen]; simp) ?hp (by simp [hlen, size_madeCells]) (byteCells_one l) g w (Below.refl _ _) (Nat.le_refl _) ?_
  case hp =>
    intro hpos
    rw [hlen] at hpos
    obtain ⟨g', o', h1, h2⟩ := hl.at hpos
    refine ⟨rfl, _, h1, fun j u hj => ?_⟩
    unfold Lib.byteCells at hj
    rw [List.getElem?_map] at hj
    obtain ⟨b, hb, rfl⟩ := Option.map_eq_some_iff.1 hj
    obtain ⟨g2, o2, h3, h4⟩ := hl.2 j b hb
    rw [h1] at h3
    simp at h3
    obtain ⟨rfl, rfl⟩ := h3
    have hadd : (⟨g', o', none⟩ : Addr).add j = ⟨g', o' + j, none⟩ := by unfold Addr.add; split <;> simp_all
    rw [hadd]
    exact h4
  intro w2 hg2 hb2
  have hg3 : w2.heap[g]? = some (.cells (Lib.byteCells l).toArray 5 (0, 0)) := by
    have h := hg2.out
    rw [show splice (madeCells #[Value.int IntKind.u8 0] n).toList 0 (Lib.byteCells l) = Lib.byteCells l from by
      unfold splice
      rw [hlen, List.drop_of_length_le (by simp [size_madeCells])]; simp] at h
    exact h
  have hc1 : CellB w2 (some ⟨g, 0, none⟩) n l := by
    refine ⟨hl.1, fun j b hj => ⟨g, 0, rfl, ?_⟩⟩
    simp only [World.cell?, hg3]
    unfold Lib.byteCells
    simp [hj]
  rw [hlen]
  exact h w2 hc1 (hl.kept fun ad ha hn => hb2.block _ (hlt ad ha hn)) (lt_of_block hg3) (hB.trans (hb2.mono hBg)) hb2
end Go.Proofs.YbulklzsDoor
