/-
  PLAIN FUNCTIONS for mooring.LawS0626CChain: the step up the chain, the count, the name, the chain itself. No Go in sight.
-/
namespace Go.Proofs.Ybulklyc.Chain

/-- zzs0626cstep at i ≥ 0 over the bytes us. -/
def stepZ (us : List Int) (i : Int) : Int :=
  if i - 1 - us.getD i.toNat 0 % 3 < 0 then -1 else i - 1 - us.getD i.toNat 0 % 3
/-- zzs0626ccount at o ≥ 0 over the bytes cs. -/
def cntN (cs : List Int) (o : Int) : Nat := (cs.getD o.toNat 0 % 3).toNat
/-- zzs0626cname. -/
def nameB (o j : Int) : ByteArray := ⟨#[UInt8.ofNat (97 + o % 26).toNat, UInt8.ofNat (48 + j).toNat]⟩
/-- What own(o) gives. -/
def ownNames (cs : List Int) (o : Int) : List ByteArray := (List.range (cntN cs o)).map fun j => nameB o (j : Nat)
/-- The chain from cur up, at most f objects of it. -/
def chainF (us : List Int) : Nat → Int → List Int
  | 0, _ => []
  | f + 1, cur => if cur < 0 then [] else cur :: chainF us f (stepZ us cur)

theorem getD_mod (us : List Int) (k : Nat) : 0 ≤ us.getD k 0 % 3 ∧ us.getD k 0 % 3 < 3 := by omega
theorem stepZ_lt (us : List Int) (i : Int) (h : 0 ≤ i) : -1 ≤ stepZ us i ∧ stepZ us i < i := by
  have := getD_mod us i.toNat
  unfold stepZ; split <;> omega
theorem cntN_le (cs : List Int) (o : Int) : cntN cs o ≤ 2 := by
  have := getD_mod cs o.toNat
  unfold cntN; omega
theorem ownNames_length (cs : List Int) (o : Int) : (ownNames cs o).length = cntN cs o := by simp [ownNames]
theorem chainF_neg (us : List Int) (f : Nat) : chainF us f (-1) = [] := by cases f <;> simp [chainF]
theorem chainF_pos (us : List Int) (f : Nat) (cur : Int) (h : 0 ≤ cur) (hf : cur < (f : Int)) : ∃ f', f = f' + 1 ∧ chainF us f cur = cur :: chainF us f' (stepZ us cur) := by
  cases f with
  | zero => omega
  | succ f' => exact ⟨f', rfl, by simp [chainF]; omega⟩
theorem flat_le (cs : List Int) : ∀ L : List Int, (L.flatMap (ownNames cs)).length ≤ 2 * L.length
  | [] => by simp
  | x :: L => by
    have h1 := flat_le cs L
    have h2 := cntN_le cs x
    simp only [List.flatMap_cons, List.length_append, ownNames_length, List.length_cons]
    omega
theorem flat_snoc (cs : List Int) (L : List Int) (x : Int) : (L ++ [x]).flatMap (ownNames cs) = L.flatMap (ownNames cs) ++ ownNames cs x := by simp
theorem ownNames_get (cs : List Int) (o : Int) (j : Nat) (h : j < cntN cs o) : (ownNames cs o)[j]? = some (nameB o (j : Nat)) := by simp [ownNames, h]
end Go.Proofs.Ybulklyc.Chain
