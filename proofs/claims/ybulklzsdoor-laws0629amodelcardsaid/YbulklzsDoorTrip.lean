/-
  THE WALK of diskstore.LawS0629ARoundTrip.
-/
import Derived.Test.YbulklzsDoorRow
namespace Go.Proofs.YbulklzsDoor
open Go.RowKit
set_option linter.unusedVariables false

theorem cellB_alloc {w : World} {a : Option Addr} {n : Nat} {l : List UInt8} (h : CellB w a n l) (o : Obj) : CellB (w.alloc o) a n l := by
  refine h.kept (fun ad ha hn => Below.heap_alloc _ _ _ ?_)
  obtain ⟨g, o, h1, h2⟩ := h.at hn
  have h0 := h2 0 (by rw [h.1]; exact hn)
  rw [h1] at ha
  simp at ha
  subst ha
  exact World.block_lt_of_cell? _ _ h0
theorem rd_new {w : World} {a : Option Addr} {n c : Nat} {l : List UInt8} (h : CellB w a n l) (hb : ∀ ad : Addr, a = some ad → 0 < n → ad.block < w.heap.size) (hnc : n ≤ c) (ev : Value) : Rd (w.alloc (Obj.cells #[.slice a n c, ev] 28)) w.heap.size a n c ev l :=
  ⟨heap_alloc_new _ _, cellB_alloc h _, fun ad ha hn => Nat.ne_of_lt (hb ad ha hn), hnc⟩
theorem rd_alloc {w : World} {R : Nat} {a : Option Addr} {n c : Nat} {ev : Value} {l : List UInt8} (h : Rd w R a n c ev l) (o : Obj) : Rd (w.alloc o) R a n c ev l :=
  ⟨(Below.heap_alloc _ _ _ (lt_of_block h.1)).trans h.1, cellB_alloc h.2.1 _, h.2.2.1, h.2.2.2⟩
theorem cellB_lt {w : World} {a : Option Addr} {n : Nat} {l : List UInt8} (h : CellB w a n l) : ∀ ad : Addr, a = some ad → 0 < n → ad.block < w.heap.size := by
  intro ad ha hn
  obtain ⟨g, o, h1, h2⟩ := h.at hn
  have h0 := h2 0 (by rw [h.1]; exact hn)
  rw [h1] at ha
  simp at ha
  subst ha
  exact World.block_lt_of_cell? _ _ h0

set_option maxRecDepth 100000 in
set_option maxHeartbeats 1000000 in
theorem trip_short (s : ByteArray) (a1 : Option Addr) (n1 c1 : Nat) (pre : Bool) (t : List UInt8) (E : Value) (T : TypeId) (p : Value) (w : World) (hE : E = .iface T p) (hg : w.cell? ⟨0, 0, none⟩ = some E) (hg0 : 0 < w.heap.size)
    (hs : s.size ≤ 4096) (hn : n1 ≤ 4096) (ht : CellB w a1 n1 t) (htB : ∀ ad : Addr, a1 = some ad → 0 < n1 → ad.block < w.heap.size) (hnil : a1 = none → c1 = 0) :
    Calls Ybad.prog 3 #[.string s, .slice a1 n1 c1, .bool pre] w fun e w' => e = .returned (.bool true) ∧ Below w.heap.size w w' := by
  obtain ⟨i5, hi5, hz0, hz1, hz2⟩ := info_parts info5
  have h0' : (s.size : Int) ≤ 4096 := by omega
  have h1' : (n1 : Int) ≤ 4096 := by omega
  have HT : Hid (CellB w a1 n1 t) := ht
  have HTB : Hid (∀ ad : Addr, a1 = some ad → 0 < n1 → ad.block < w.heap.size) := htB
  have HG : Hid (w.cell? ⟨0, 0, none⟩ = some E) := hg
  have HNil : Hid (a1 = none → c1 = 0) := hnil
  have hul := Lib.uvarint_length64 (x := s.size) (by omega)
  have hup := Lib.uvarint_pos s.size
  obtain ⟨u, hu⟩ : ∃ u, u = Lib.uvarint s.size := ⟨_, rfl⟩
  rw [← hu] at hul hup
  have HU : Hid (u = Lib.uvarint s.size) := hu
  clear ht htB hg hnil
  go_enter Ybad.func3, Ybad.ntmps3
  go_wp2_with fail
  refine (Ybad.binary_AppendUvarint w.heap.size 0 s.size (by omega) (.slice none 0 0) [] w (World.ownsRow_nil _ _ _ _) (Nat.le_refl _) (by omega)).mono ?_
  rintro e w1 ⟨v1, rfl, ho1, hb1⟩
  rw [← hu] at ho1
  clear hu
  simp only [Nat.zero_add, List.nil_append] at ho1
  go_wp2_with (at_builtin; refine Lib.wpList_append_own_string _ rfl (.tmp 23) (.tmp 24) 22 9 rfl w.heap.size 5 i5 Ybad.underlying22 Ybad.underlying9 hi5 hz0 hz1 hz2 v1 _ _ rfl ho1 s rfl (by unfold maxLen; omega) (by omega) hb1.size ?_)
  intro v2 w2 ho2 hg2 _
  have hB2 : Below w.heap.size w w2 := hb1.grown hg2 hb1.size (fun k hk => (ho1.lt k hk).1)
  rw [cells_str, cells_app] at ho2
  obtain ⟨L2, hL2⟩ : ∃ L2, L2 = u ++ s.data.toList := ⟨_, rfl⟩
  obtain ⟨N2, hN2⟩ : ∃ N2, N2 = u.length + s.size := ⟨_, rfl⟩
  rw [← hL2, ← hN2] at ho2
  have HL2 : Hid (L2 = u ++ s.data.toList) := hL2
  have HN2 : Hid (N2 = u.length + s.size) := hN2
  have hN2' : N2 ≤ 4106 := by omega
  have HO2 : Hid (w2.ownsRow w.heap.size 5 1 v2 N2 (Lib.byteCells L2)) := ho2
  have HT2 : Hid (CellB w2 a1 n1 t) := HT.out.kept fun ad ha hn => hB2.block _ (HTB.out ad ha hn)
  clear hg2 ho1 ho2 hL2 hN2
  go_wp2_with (at_builtin; refine append_bytes rfl (.tmp 26) (.tmp 27) rfl w.heap.size v2 N2 L2 rfl HO2.out a1 n1 c1 t rfl HT2.out HNil.out (by omega) hB2 hB2.size ?_)
  intro a3 c3 w3 hcb hnc hc63 hblk hB3
  obtain ⟨L, hL⟩ : ∃ L, L = L2 ++ t := ⟨_, rfl⟩
  obtain ⟨N, hN⟩ : ∃ N, N = N2 + n1 := ⟨_, rfl⟩
  rw [← hL, ← hN] at hcb
  rw [← hN] at hnc hblk ⊢
  have HL : Hid (L = L2 ++ t) := hL
  have HN : Hid (N = N2 + n1) := hN
  have HCB : Hid (CellB w3 a3 N L) := hcb
  have HBK : Hid (∀ ad : Addr, a3 = some ad → 0 < N → w.heap.size ≤ ad.block ∧ ad.block < w3.heap.size) := hblk
  have hN' : N ≤ 10000 := by omega
  have hmk := fun w => run_make_row' (P := Ybad.prog) 22 5 (.int .u8 0) 1 Ybad.underlying22 info5 rfl .i64 .i64 N (by omega) (by omega) w
  have HB3 : Hid (Below w.heap.size w w3) := hB3
  clear hcb hblk hL hN HO2 HT2 hi5 hz0 hz1 hz2 hB2 hb1 hB3
  go_wp2_with (refine copy_bytes rfl (.tmp 32) (.tmp 33) rfl w3.heap.size N a3 c3 L rfl rfl (heap_alloc_new _ _) (HCB.out.kept fun ad ha hn => Below.heap_alloc _ _ _ (HBK.out ad ha hn).2) (fun ad ha hn => (HBK.out ad ha hn).2) (HB3.out.alloc HB3.out.size _) HB3.out.size ?_)
  intro w4 hx4 hs4 hsz hB4 hB4'
  have HBK4 : Hid (∀ ad : Addr, a3 = some ad → 0 < N → ad.block < w4.heap.size) := fun ad ha hn => Nat.lt_trans (HBK.out ad ha hn).2 hsz
  have HX4 : Hid (CellB w4 (some ⟨w3.heap.size, 0, none⟩) N L) := hx4
  have HS4 : Hid (CellB w4 a3 N L) := hs4
  have HB4 : Hid (Below w.heap.size w w4) := hB4
  obtain ⟨X, hX⟩ : ∃ X, X = w3.heap.size := ⟨_, rfl⟩
  rw [← hX] at hsz HX4 ⊢
  clear HB3 hB4 hB4' hx4 hs4 HBK HCB hmk hX
  have HX1 : Hid (CellB w4 a1 n1 t) := HT.out.kept fun ad ha hn => HB4.out.block _ (HTB.out ad ha hn)
  have hg4 : w4.cell? ⟨0, 0, none⟩ = some E := by rw [HB4.out.cell (p := ⟨0, 0, none⟩) hg0]; exact HG.out
  have hdec := dec_enc s.size (by omega) (s.data.toList ++ t)
  rw [← HU.out, ← List.append_assoc, ← HL2.out, ← HL.out] at hdec
  have hL1 : (L.drop u.length).take s.size = s.data.toList := by
    rw [HL.out, HL2.out, List.append_assoc, List.drop_left, ← size_data s, List.take_left]
  have hL3 : (L.drop u.length).drop s.size = t := by
    rw [HL.out, HL2.out, List.append_assoc, List.drop_left, ← size_data s, List.drop_left]
  have hov : s.size ≤ N - u.length := by have := HN.out; have := HN2.out; omega
  have hRge := HB4.out.size
  have HG4 : Hid (w4.cell? ⟨0, 0, none⟩ = some E) := hg4
  have HD : Hid (Lib.uvarintDec L = (s.size, (u.length : Int))) := hdec
  have HL1 : Hid ((L.drop u.length).take s.size = s.data.toList) := hL1
  have HL3 : Hid ((L.drop u.length).drop s.size = t) := hL3
  clear hg4 hdec hL1 hL3 HG HU HL HL2 HN HN2 HT
  cases pre
  · go_wp2_with fail
    have hr5 := rd_new HS4.out HBK4.out hnc .nilIface
    have hB5 := HB4.out.alloc hRge (Obj.cells #[Value.slice a3 N c3, Value.nilIface] 28)
    have hx5 := cellB_alloc HX1.out (Obj.cells #[Value.slice a3 N c3, Value.nilIface] 28)
    obtain ⟨w5, hw5⟩ : ∃ w5, w5 = w4.alloc (Obj.cells #[Value.slice a3 N c3, Value.nilIface] 28) := ⟨_, rfl⟩
    rw [← hw5] at hr5 hB5 hx5 ⊢
    obtain ⟨R, hR⟩ : ∃ R, R = w4.heap.size := ⟨_, rfl⟩
    rw [← hR] at hr5 hRge ⊢
    clear hw5 hR
    have hsk := string_ok (k := u.length) hr5 (by rw [HD.out]) hup (by rw [HD.out]; exact hov) hc63
    rw [HD.out] at hsk
    simp only [] at hsk
    rw [HL1.out, HL3.out, show (⟨s.data.toList.toArray⟩ : ByteArray) = s from by cases s; rfl] at hsk
    refine hsk.mono ?_
    rintro e w6 ⟨rfl, ⟨a6, c6, hr6⟩, hg6⟩
    have HX6 : Hid (CellB w6 a1 n1 t) := cellB_grown hx5 (fun ad ha hn => by have := HTB.out ad ha hn; omega) hg6
    have HB6 : Hid (Below w.heap.size w w6) := hB5.grown hg6 hB5.size (fun k hk => by simp at hk; omega)
    obtain ⟨n6, hn6⟩ : ∃ n6, n6 = N - u.length - s.size := ⟨_, rfl⟩
    rw [← hn6] at hr6
    obtain ⟨hb6, hc6, _, hnc6⟩ := hr6
    have HC6 : Hid (CellB w6 a6 n6 t) := hc6
    have c0 : w6.cell? ⟨R, 0, none⟩ = some (.slice a6 n6 c6) := by simp only [World.cell?, hb6]; rfl
    have c1' : w6.cell? ⟨R, 1, none⟩ = some .nilIface := by simp only [World.cell?, hb6]; rfl
    clear hr5 hB5 hx5 hsk hg6 hc6 hb6 hn6 HG4 HD HL1 HL3 HX1 HX4 HB4 HS4 HBK4 hov
    go_wp2_with fail
    have heq := equal_any a6 a1 n6 c6 n1 c1 t t w6 HC6.out HX6.out
    rw [show (t == t) = true from beq_self_eq_true t] at heq
    refine heq.mono ?_
    rintro e w7 ⟨rfl, hw7⟩
    subst hw7
    clear heq
    go_wp2_with fail
    go_ret
    exact ⟨rfl, HB6.out⟩
  · go_wp2_with fail
    have hr5 := rd_alloc (rd_new HS4.out HBK4.out hnc (Value.iface 29 (Value.pointer (some { block := w4.heap.size + 1, off := 0 })))) (Obj.cells #[Value.int IntKind.i64 0] 31)
    have hB5 := (HB4.out.alloc hRge (Obj.cells #[Value.slice a3 N c3, Value.iface 29 (Value.pointer (some { block := w4.heap.size + 1, off := 0 }))] 28)).alloc (by simp; omega) (Obj.cells #[Value.int IntKind.i64 0] 31)
    have hx5 := cellB_alloc (cellB_alloc HX4.out (Obj.cells #[Value.slice a3 N c3, Value.iface 29 (Value.pointer (some { block := w4.heap.size + 1, off := 0 }))] 28)) (Obj.cells #[Value.int IntKind.i64 0] 31)
    obtain ⟨w5, hw5⟩ : ∃ w5, w5 = (w4.alloc (Obj.cells #[Value.slice a3 N c3, Value.iface 29 (Value.pointer (some { block := w4.heap.size + 1, off := 0 }))] 28)).alloc (Obj.cells #[Value.int IntKind.i64 0] 31) := ⟨_, rfl⟩
    rw [← hw5] at hr5 hB5 hx5 ⊢
    have hg5 : w5.cell? ⟨0, 0, none⟩ = some E := by
      have h0 : 0 < w4.heap.size := Nat.lt_of_lt_of_le hg0 hRge
      rw [hw5, World.cell?_of_block (w := w4) (a := ⟨0, 0, none⟩) ((Below.heap_alloc _ _ _ (by simp)).trans (Below.heap_alloc _ _ _ h0))]
      exact HG4.out
    obtain ⟨R, hR⟩ : ∃ R, R = w4.heap.size := ⟨_, rfl⟩
    rw [← hR] at hr5 hRge hsz ⊢
    clear hw5 hR
    have hsk := string_bad hE (by omega) hr5 hg5 (Or.inr ⟨_, _, rfl⟩) (Or.inl (by simp)) hc63
    refine hsk.mono ?_
    rintro e w6 ⟨rfl, ⟨a6, c6, hr6⟩, hg6⟩
    have HX6 : Hid (CellB w6 (some ⟨X, 0, none⟩) N L) := cellB_grown hx5 (fun ad ha hn => by simp at ha; subst ha; simp; omega) hg6
    have HB6 : Hid (Below w.heap.size w w6) := hB5.grown hg6 hB5.size (fun k hk => by simp at hk; omega)
    obtain ⟨hb6, hc6, _, hnc6⟩ := hr6
    have HC6 : Hid (CellB w6 a6 N L) := hc6
    have c0 : w6.cell? ⟨R, 0, none⟩ = some (.slice a6 N c6) := by simp only [World.cell?, hb6]; rfl
    have c1' : w6.cell? ⟨R, 1, none⟩ = some (.iface T p) := by rw [hE] at hb6; simp only [World.cell?, hb6]; rfl
    clear hr5 hB5 hx5 hsk hg6 hc6 hb6 HG4 HD HL1 HL3 HX1 HX4 HB4 HS4 HBK4 hov hg5
    go_wp2_with fail
    have heq := equal_any a6 (some ⟨X, 0, none⟩) N c6 N N L L w6 HC6.out HX6.out
    rw [show (L == L) = true from beq_self_eq_true L] at heq
    refine heq.mono ?_
    rintro e w7 ⟨rfl, hw7⟩
    subst hw7
    clear heq
    go_wp2_with fail
    go_ret
    exact ⟨rfl, HB6.out⟩
end Go.Proofs.YbulklzsDoor
