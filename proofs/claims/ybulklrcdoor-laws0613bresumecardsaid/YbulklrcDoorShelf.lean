/-
  strconv.Itoa's contract, laid at this dump by the kit's own tools (lay-shelf.mjs, then lay-plain.mjs); only that one is kept.
-/
import Derived.Shelf.LaysM
import Derived.Shelf.Strconv.Itoa3
import Derived.Test.YbulklrcDoorRows
namespace Go.Proofs
open Go.Shelf
def Ybad.laysM171_ren : Go.Shelf.Ren := ⟨fun | 171 => 7 | 243 => 11 | 246 => 12 | 283 => 13 | 284 => 14 | 285 => 15 | 286 => 16 | 129 => 18 | 317 => 17 | 318 => 19 | 319 => 20 | 320 => 21 | 337 => 22 | 338 => 23 | n => n, fun | 3 => 3 | 9 => 9 | 2 => 2 | 4 => 4 | 171 => 40 | 0 => 0 | 53 => 41 | 37 => 36 | 5 => 5 | 173 => 44 | 212 => 48 | 51 => 49 | 20 => 20 | 213 => 50 | 46 => 52 | 232 => 55 | 233 => 56 | n => n, fun | 17 => 0 | 18 => 1 | 19 => 2 | n => n⟩
theorem Ybad.laysM171 : Go.Proofs.LaysM.n171 Ybad.prog Ybad.laysM171_ren := {
  mixed := by kernel_rfl
  f129 := Ybad.func18.trans (congrArg some (by kernel_rfl))
  f171 := Ybad.func7.trans (congrArg some (by kernel_rfl))
  f243 := Ybad.func11.trans (congrArg some (by kernel_rfl))
  f246 := Ybad.func12.trans (congrArg some (by kernel_rfl))
  f283 := Ybad.func13.trans (congrArg some (by kernel_rfl))
  f284 := Ybad.func14.trans (congrArg some (by kernel_rfl))
  f285 := Ybad.func15.trans (congrArg some (by kernel_rfl))
  f286 := Ybad.func16.trans (congrArg some (by kernel_rfl))
  f317 := Ybad.func17.trans (congrArg some (by kernel_rfl))
  f318 := Ybad.func19.trans (congrArg some (by kernel_rfl))
  f319 := Ybad.func20.trans (congrArg some (by kernel_rfl))
  f320 := Ybad.func21.trans (congrArg some (by kernel_rfl))
  f337 := Ybad.func22.trans (congrArg some (by kernel_rfl))
  f338 := Ybad.func23.trans (congrArg some (by kernel_rfl))
  t0 := Ybad.underlying0
  a0 := Ybad.isAgg0
  z0 := Ybad.sizeOf0
  v0 := Ybad.zeroValue0
  t2 := Ybad.underlying2
  a2 := Ybad.isAgg2
  z2 := Ybad.sizeOf2
  v2 := Ybad.zeroValue2
  t3 := Ybad.underlying3
  a3 := Ybad.isAgg3
  z3 := Ybad.sizeOf3
  v3 := Ybad.zeroValue3
  t4 := Ybad.underlying4
  a4 := Ybad.isAgg4
  z4 := Ybad.sizeOf4
  v4 := Ybad.zeroValue4
  t5 := Ybad.underlying5
  a5 := Ybad.isAgg5
  z5 := Ybad.sizeOf5
  v5 := Ybad.zeroValue5
  t9 := Ybad.underlying9
  a9 := Ybad.isAgg9
  z9 := Ybad.sizeOf9
  v9 := Ybad.zeroValue9
  t20 := Ybad.underlying20
  a20 := Ybad.isAgg20
  z20 := Ybad.sizeOf20
  v20 := Ybad.zeroValue20
  t37 := Ybad.underlying36
  a37 := Ybad.isAgg36
  z37 := Ybad.sizeOf36
  v37 := Ybad.zeroValue36
  t46 := Ybad.underlying52
  a46 := Ybad.isAgg52
  z46 := Ybad.sizeOf52
  v46 := Ybad.zeroValue52
  t51 := Ybad.underlying49
  a51 := Ybad.isAgg49
  z51 := Ybad.sizeOf49
  v51 := Ybad.zeroValue49
  t53 := Ybad.underlying41
  a53 := Ybad.isAgg41
  z53 := Ybad.sizeOf41
  v53 := Ybad.zeroValue41
  t171 := Ybad.underlying40
  a171 := Ybad.isAgg40
  z171 := Ybad.sizeOf40
  v171 := Ybad.zeroValue40
  t173 := Ybad.underlying44
  a173 := Ybad.isAgg44
  z173 := Ybad.sizeOf44
  v173 := Ybad.zeroValue44
  t212 := Ybad.underlying48
  a212 := Ybad.isAgg48
  z212 := Ybad.sizeOf48
  v212 := Ybad.zeroValue48
  t213 := Ybad.underlying50
  a213 := Ybad.isAgg50
  z213 := Ybad.sizeOf50
  t232 := Ybad.underlying55
  a232 := Ybad.isAgg55
  z232 := Ybad.sizeOf55
  v232 := Ybad.zeroValue55
  t233 := Ybad.underlying56
  a233 := Ybad.isAgg56
  z233 := Ybad.sizeOf56
  v233 := Ybad.zeroValue56
  g17 := by kernel_rfl
  g18 := by kernel_rfl
  g19 := by kernel_rfl
  i0 := by kernel_rfl
  i2 := by kernel_rfl
  i3 := by kernel_rfl
  i4 := by kernel_rfl
  i5 := by kernel_rfl
  i9 := by kernel_rfl
  i20 := by kernel_rfl
  i37 := by kernel_rfl
  i46 := by kernel_rfl
  i51 := by kernel_rfl
  i53 := by kernel_rfl
  i171 := by kernel_rfl
  i173 := by kernel_rfl
  i212 := by kernel_rfl
  i232 := by kernel_rfl
  i233 := by kernel_rfl
  m17 := by kernel_rfl
  m18 := by kernel_rfl
  m19 := by kernel_rfl }
/-- The table that strconv.Itoa reads; its name is the first on the given row's list 'named'. -/
def Ybad.pow10Name : String := YbulklrcDoor.Rows.lawS0613BFirstFreeRow.named.headD ""
open Go.RowKit Go.Sort Go.Lib in
/-- strconv.Itoa, the kit's contract laid at this dump: i's decimal numeral, for every int; behind the call: new blocks and draws. -/
theorem Ybad.strconv_Itoa (n : Int) (h0 : -9223372036854775808 ≤ n) (h1 : n ≤ 9223372036854775807) (w : World) (htab : Lib.TabIs Ybad.prog w Ybad.pow10Name .u64 Lib.pow10Tab) :
    Calls Ybad.prog 7 #[.int .i64 n] w fun e w' => e = .returned (.string ⟨(Lib.itoa n).toArray⟩) ∧ ∃ k os, w' = grow (w.drewN k) os := Any.strconv_Itoa Ybad.laysM171 n h0 h1 w htab
end Go.Proofs
