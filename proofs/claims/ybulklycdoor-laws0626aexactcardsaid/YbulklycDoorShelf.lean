/-
  strconv.Itoa's contract off the kit's shelf, laid at this seat's dump by the shelf's own tools (lay-shelf, then lay-plain); the table's name is taken from the given row.
-/
import Derived.Shelf.LaysM
import Derived.Shelf.Strconv.Itoa3
import Derived.Test.YbulklycDoorRows
namespace Go.Proofs
open Go.Shelf
def Ybad.laysM171_ren : Go.Shelf.Ren := ⟨fun | 171 => 7 | 243 => 8 | 246 => 9 | 283 => 10 | 284 => 11 | 285 => 12 | 286 => 13 | 129 => 15 | 317 => 14 | 318 => 16 | 319 => 17 | 320 => 18 | 337 => 19 | 338 => 20 | n => n, fun | 3 => 3 | 9 => 9 | 2 => 2 | 4 => 4 | 171 => 27 | 0 => 0 | 53 => 26 | 37 => 28 | 5 => 5 | 173 => 32 | 212 => 36 | 51 => 37 | 20 => 20 | 213 => 38 | 46 => 39 | 232 => 42 | 233 => 43 | n => n, fun | 17 => 0 | 18 => 1 | 19 => 2 | n => n⟩
theorem Ybad.laysM171 : Go.Proofs.LaysM.n171 Ybad.prog Ybad.laysM171_ren := {
  mixed := by kernel_rfl
  f129 := Ybad.func15.trans (congrArg some (by kernel_rfl))
  f171 := Ybad.func7.trans (congrArg some (by kernel_rfl))
  f243 := Ybad.func8.trans (congrArg some (by kernel_rfl))
  f246 := Ybad.func9.trans (congrArg some (by kernel_rfl))
  f283 := Ybad.func10.trans (congrArg some (by kernel_rfl))
  f284 := Ybad.func11.trans (congrArg some (by kernel_rfl))
  f285 := Ybad.func12.trans (congrArg some (by kernel_rfl))
  f286 := Ybad.func13.trans (congrArg some (by kernel_rfl))
  f317 := Ybad.func14.trans (congrArg some (by kernel_rfl))
  f318 := Ybad.func16.trans (congrArg some (by kernel_rfl))
  f319 := Ybad.func17.trans (congrArg some (by kernel_rfl))
  f320 := Ybad.func18.trans (congrArg some (by kernel_rfl))
  f337 := Ybad.func19.trans (congrArg some (by kernel_rfl))
  f338 := Ybad.func20.trans (congrArg some (by kernel_rfl))
  t0 := Ybad.underlying0
  a0 := Ybad.isAgg0
  z0 := Ybad.sizeOf0
  v0 := Ybad.zeroValue0
  t2 := Ybad.underlying2
  a2 := Ybad.isAgg2
  z2 := Ybad.sizeOf2
  v2 := Ybad.zeroValue2
  t3 := Ybad.underlying3
  a3 := Ybad.isAgg3
  z3 := Ybad.sizeOf3
  v3 := Ybad.zeroValue3
  t4 := Ybad.underlying4
  a4 := Ybad.isAgg4
  z4 := Ybad.sizeOf4
  v4 := Ybad.zeroValue4
  t5 := Ybad.underlying5
  a5 := Ybad.isAgg5
  z5 := Ybad.sizeOf5
  v5 := Ybad.zeroValue5
  t9 := Ybad.underlying9
  a9 := Ybad.isAgg9
  z9 := Ybad.sizeOf9
  v9 := Ybad.zeroValue9
  t20 := Ybad.underlying20
  a20 := Ybad.isAgg20
  z20 := Ybad.sizeOf20
  v20 := Ybad.zeroValue20
  t37 := Ybad.underlying28
  a37 := Ybad.isAgg28
  z37 := Ybad.sizeOf28
  v37 := Ybad.zeroValue28
  t46 := Ybad.underlying39
  a46 := Ybad.isAgg39
  z46 := Ybad.sizeOf39
  v46 := Ybad.zeroValue39
  t51 := Ybad.underlying37
  a51 := Ybad.isAgg37
  z51 := Ybad.sizeOf37
  v51 := Ybad.zeroValue37
  t53 := Ybad.underlying26
  a53 := Ybad.isAgg26
  z53 := Ybad.sizeOf26
  v53 := Ybad.zeroValue26
  t171 := Ybad.underlying27
  a171 := Ybad.isAgg27
  z171 := Ybad.sizeOf27
  v171 := Ybad.zeroValue27
  t173 := Ybad.underlying32
  a173 := Ybad.isAgg32
  z173 := Ybad.sizeOf32
  v173 := Ybad.zeroValue32
  t212 := Ybad.underlying36
  a212 := Ybad.isAgg36
  z212 := Ybad.sizeOf36
  v212 := Ybad.zeroValue36
  t213 := Ybad.underlying38
  a213 := Ybad.isAgg38
  z213 := Ybad.sizeOf38
  t232 := Ybad.underlying42
  a232 := Ybad.isAgg42
  z232 := Ybad.sizeOf42
  v232 := Ybad.zeroValue42
  t233 := Ybad.underlying43
  a233 := Ybad.isAgg43
  z233 := Ybad.sizeOf43
  v233 := Ybad.zeroValue43
  g17 := by kernel_rfl
  g18 := by kernel_rfl
  g19 := by kernel_rfl
  i0 := by kernel_rfl
  i2 := by kernel_rfl
  i3 := by kernel_rfl
  i4 := by kernel_rfl
  i5 := by kernel_rfl
  i9 := by kernel_rfl
  i20 := by kernel_rfl
  i37 := by kernel_rfl
  i46 := by kernel_rfl
  i51 := by kernel_rfl
  i53 := by kernel_rfl
  i171 := by kernel_rfl
  i173 := by kernel_rfl
  i212 := by kernel_rfl
  i232 := by kernel_rfl
  i233 := by kernel_rfl
  m17 := by kernel_rfl
  m18 := by kernel_rfl
  m19 := by kernel_rfl }
/-- The name of the table of powers of ten, off the given row's own list. -/
def YbulklycDoor.powName : String := YbulklycDoor.Rows.lawS0626AExactRow.named.headD ""
open Go.RowKit Go.Sort Go.Lib in
/-- strconv.Itoa: "Itoa is equivalent to FormatInt(int64(i), 10).": i's DECIMAL NUMERAL ('Lib.itoa': a '-' where i is negative, then the digits), FOR EVERY int. The world behind the call: the world before it, new blocks behind the heap (the library's 'var a [24]byte'), draws. (LAID: no walk: one application.) -/
theorem Ybad.strconv_Itoa (n : Int) (h0 : -9223372036854775808 ≤ n) (h1 : n ≤ 9223372036854775807) (w : World) (htab : Lib.TabIs Ybad.prog w YbulklycDoor.powName .u64 Lib.pow10Tab) :
    Calls Ybad.prog 7 #[.int .i64 n] w fun e w' => e = .returned (.string ⟨(Lib.itoa n).toArray⟩) ∧ ∃ k os, w' = grow (w.drewN k) os := Any.strconv_Itoa Ybad.laysM171 n h0 h1 w htab
end Go.Proofs
