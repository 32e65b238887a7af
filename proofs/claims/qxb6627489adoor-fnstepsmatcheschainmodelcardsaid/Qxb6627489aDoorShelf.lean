/-
  THE SHELF's CONTRACT OF strconv.Itoa AT THIS PROGRAM, in plain words: written by the kit's lay-shelf.mjs and lay-plain.mjs for this program; cut down by hand to the one contract that the proof uses, and put into the seat's own namespace.
-/
import Derived.Shelf.LaysM
import Derived.Shelf.Strconv.Itoa3
import Derived.Test.Qxb6627489aDoorProg
import Derived.Test.Qxb6627489aDoorRows
namespace Go.Proofs.Qxb6627489aDoor
open Go.Shelf Go.Proofs
def Tryd.laysM171_ren : Go.Shelf.Ren := ⟨fun | 171 => 15 | 243 => 16 | 246 => 17 | 283 => 18 | 284 => 19 | 285 => 20 | 286 => 21 | 129 => 23 | 317 => 22 | 318 => 24 | 319 => 25 | 320 => 26 | 337 => 27 | 338 => 28 | n => n, fun | 3 => 3 | 9 => 9 | 2 => 2 | 4 => 4 | 171 => 37 | 0 => 0 | 53 => 41 | 37 => 38 | 5 => 5 | 173 => 44 | 212 => 48 | 51 => 49 | 20 => 20 | 213 => 50 | 46 => 52 | 232 => 55 | 233 => 56 | n => n, fun | 17 => 0 | 18 => 1 | 19 => 2 | n => n⟩
theorem Tryd.laysM171 : Go.Proofs.LaysM.n171 Tryd.prog Tryd.laysM171_ren := {
  mixed := by kernel_rfl
  f129 := Tryd.func23.trans (congrArg some (by kernel_rfl))
  f171 := Tryd.func15.trans (congrArg some (by kernel_rfl))
  f243 := Tryd.func16.trans (congrArg some (by kernel_rfl))
  f246 := Tryd.func17.trans (congrArg some (by kernel_rfl))
  f283 := Tryd.func18.trans (congrArg some (by kernel_rfl))
  f284 := Tryd.func19.trans (congrArg some (by kernel_rfl))
  f285 := Tryd.func20.trans (congrArg some (by kernel_rfl))
  f286 := Tryd.func21.trans (congrArg some (by kernel_rfl))
  f317 := Tryd.func22.trans (congrArg some (by kernel_rfl))
  f318 := Tryd.func24.trans (congrArg some (by kernel_rfl))
  f319 := Tryd.func25.trans (congrArg some (by kernel_rfl))
  f320 := Tryd.func26.trans (congrArg some (by kernel_rfl))
  f337 := Tryd.func27.trans (congrArg some (by kernel_rfl))
  f338 := Tryd.func28.trans (congrArg some (by kernel_rfl))
  t0 := Tryd.underlying0
  a0 := Tryd.isAgg0
  z0 := Tryd.sizeOf0
  v0 := Tryd.zeroValue0
  t2 := Tryd.underlying2
  a2 := Tryd.isAgg2
  z2 := Tryd.sizeOf2
  v2 := Tryd.zeroValue2
  t3 := Tryd.underlying3
  a3 := Tryd.isAgg3
  z3 := Tryd.sizeOf3
  v3 := Tryd.zeroValue3
  t4 := Tryd.underlying4
  a4 := Tryd.isAgg4
  z4 := Tryd.sizeOf4
  v4 := Tryd.zeroValue4
  t5 := Tryd.underlying5
  a5 := Tryd.isAgg5
  z5 := Tryd.sizeOf5
  v5 := Tryd.zeroValue5
  t9 := Tryd.underlying9
  a9 := Tryd.isAgg9
  z9 := Tryd.sizeOf9
  v9 := Tryd.zeroValue9
  t20 := Tryd.underlying20
  a20 := Tryd.isAgg20
  z20 := Tryd.sizeOf20
  v20 := Tryd.zeroValue20
  t37 := Tryd.underlying38
  a37 := Tryd.isAgg38
  z37 := Tryd.sizeOf38
  v37 := Tryd.zeroValue38
  t46 := Tryd.underlying52
  a46 := Tryd.isAgg52
  z46 := Tryd.sizeOf52
  v46 := Tryd.zeroValue52
  t51 := Tryd.underlying49
  a51 := Tryd.isAgg49
  z51 := Tryd.sizeOf49
  v51 := Tryd.zeroValue49
  t53 := Tryd.underlying41
  a53 := Tryd.isAgg41
  z53 := Tryd.sizeOf41
  v53 := Tryd.zeroValue41
  t171 := Tryd.underlying37
  a171 := Tryd.isAgg37
  z171 := Tryd.sizeOf37
  v171 := Tryd.zeroValue37
  t173 := Tryd.underlying44
  a173 := Tryd.isAgg44
  z173 := Tryd.sizeOf44
  v173 := Tryd.zeroValue44
  t212 := Tryd.underlying48
  a212 := Tryd.isAgg48
  z212 := Tryd.sizeOf48
  v212 := Tryd.zeroValue48
  t213 := Tryd.underlying50
  a213 := Tryd.isAgg50
  z213 := Tryd.sizeOf50
  t232 := Tryd.underlying55
  a232 := Tryd.isAgg55
  z232 := Tryd.sizeOf55
  v232 := Tryd.zeroValue55
  t233 := Tryd.underlying56
  a233 := Tryd.isAgg56
  z233 := Tryd.sizeOf56
  v233 := Tryd.zeroValue56
  g17 := by kernel_rfl
  g18 := by kernel_rfl
  g19 := by kernel_rfl
  i0 := by kernel_rfl
  i2 := by kernel_rfl
  i3 := by kernel_rfl
  i4 := by kernel_rfl
  i5 := by kernel_rfl
  i9 := by kernel_rfl
  i20 := by kernel_rfl
  i37 := by kernel_rfl
  i46 := by kernel_rfl
  i51 := by kernel_rfl
  i53 := by kernel_rfl
  i171 := by kernel_rfl
  i173 := by kernel_rfl
  i212 := by kernel_rfl
  i232 := by kernel_rfl
  i233 := by kernel_rfl
  m17 := by kernel_rfl
  m18 := by kernel_rfl
  m19 := by kernel_rfl }
/-- The name of the library's table, as the given row bears it. -/
def tabName : String := Rows.fnStepsMatchesChainModelRow.named.headD ""
open Go.RowKit Go.Sort Go.Lib in
/-- strconv.Itoa: "Itoa is equivalent to FormatInt(int64(i), 10).": i's DECIMAL NUMERAL ('Lib.itoa': a '-' where i is negative, then the digits), FOR EVERY int. The world behind the call: the world before it, new blocks behind the heap (the library's 'var a [24]byte'), draws. (LAID: no walk: one application.) -/
theorem Tryd.strconv_Itoa (n : Int) (h0 : -9223372036854775808 ≤ n) (h1 : n ≤ 9223372036854775807) (w : World) (htab : Lib.TabIs Tryd.prog w tabName .u64 Lib.pow10Tab) :
    Calls Tryd.prog 15 #[.int .i64 n] w fun e w' => e = .returned (.string ⟨(Lib.itoa n).toArray⟩) ∧ ∃ k os, w' = grow (w.drewN k) os := Any.strconv_Itoa Tryd.laysM171 n h0 h1 w htab
end Go.Proofs.Qxb6627489aDoor
