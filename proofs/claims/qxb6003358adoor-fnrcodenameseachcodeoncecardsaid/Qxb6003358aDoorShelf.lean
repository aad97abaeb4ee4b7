/-
  strconv.Itoa at this program: the shelf's contract, laid at this dump's numbers (written by the kit's lay-shelf and lay-plain tools for this program; cut to the one contract that the road calls; the table's name is taken off the given row).
-/
import Derived.Shelf.Strconv.Itoa3
import Derived.Shelf.LaysM
import Derived.Test.Qxb6003358aDoorRows
namespace Go.Proofs
open Go.Shelf
def Tryd.laysM171_ren : Go.Shelf.Ren := ⟨fun | 171 => 9 | 243 => 13 | 246 => 15 | 283 => 16 | 284 => 17 | 285 => 18 | 286 => 19 | 129 => 21 | 317 => 20 | 318 => 22 | 319 => 23 | 320 => 24 | 337 => 25 | 338 => 26 | n => n, fun | 3 => 3 | 9 => 9 | 2 => 2 | 4 => 4 | 171 => 38 | 0 => 0 | 53 => 39 | 37 => 42 | 5 => 5 | 173 => 43 | 212 => 47 | 51 => 48 | 20 => 20 | 213 => 49 | 46 => 51 | 232 => 54 | 233 => 55 | n => n, fun | 17 => 0 | 18 => 1 | 19 => 2 | n => n⟩
theorem Tryd.laysM171 : Go.Proofs.LaysM.n171 Tryd.prog Tryd.laysM171_ren := {
  mixed := by kernel_rfl
  f129 := Tryd.func21.trans (congrArg some (by kernel_rfl))
  f171 := Tryd.func9.trans (congrArg some (by kernel_rfl))
  f243 := Tryd.func13.trans (congrArg some (by kernel_rfl))
  f246 := Tryd.func15.trans (congrArg some (by kernel_rfl))
  f283 := Tryd.func16.trans (congrArg some (by kernel_rfl))
  f284 := Tryd.func17.trans (congrArg some (by kernel_rfl))
  f285 := Tryd.func18.trans (congrArg some (by kernel_rfl))
  f286 := Tryd.func19.trans (congrArg some (by kernel_rfl))
  f317 := Tryd.func20.trans (congrArg some (by kernel_rfl))
  f318 := Tryd.func22.trans (congrArg some (by kernel_rfl))
  f319 := Tryd.func23.trans (congrArg some (by kernel_rfl))
  f320 := Tryd.func24.trans (congrArg some (by kernel_rfl))
  f337 := Tryd.func25.trans (congrArg some (by kernel_rfl))
  f338 := Tryd.func26.trans (congrArg some (by kernel_rfl))
  t0 := Tryd.underlying0
  a0 := Tryd.isAgg0
  z0 := Tryd.sizeOf0
  v0 := Tryd.zeroValue0
  t2 := Tryd.underlying2
  a2 := Tryd.isAgg2
  z2 := Tryd.sizeOf2
  v2 := Tryd.zeroValue2
  t3 := Tryd.underlying3
  a3 := Tryd.isAgg3
  z3 := Tryd.sizeOf3
  v3 := Tryd.zeroValue3
  t4 := Tryd.underlying4
  a4 := Tryd.isAgg4
  z4 := Tryd.sizeOf4
  v4 := Tryd.zeroValue4
  t5 := Tryd.underlying5
  a5 := Tryd.isAgg5
  z5 := Tryd.sizeOf5
  v5 := Tryd.zeroValue5
  t9 := Tryd.underlying9
  a9 := Tryd.isAgg9
  z9 := Tryd.sizeOf9
  v9 := Tryd.zeroValue9
  t20 := Tryd.underlying20
  a20 := Tryd.isAgg20
  z20 := Tryd.sizeOf20
  v20 := Tryd.zeroValue20
  t37 := Tryd.underlying42
  a37 := Tryd.isAgg42
  z37 := Tryd.sizeOf42
  v37 := Tryd.zeroValue42
  t46 := Tryd.underlying51
  a46 := Tryd.isAgg51
  z46 := Tryd.sizeOf51
  v46 := Tryd.zeroValue51
  t51 := Tryd.underlying48
  a51 := Tryd.isAgg48
  z51 := Tryd.sizeOf48
  v51 := Tryd.zeroValue48
  t53 := Tryd.underlying39
  a53 := Tryd.isAgg39
  z53 := Tryd.sizeOf39
  v53 := Tryd.zeroValue39
  t171 := Tryd.underlying38
  a171 := Tryd.isAgg38
  z171 := Tryd.sizeOf38
  v171 := Tryd.zeroValue38
  t173 := Tryd.underlying43
  a173 := Tryd.isAgg43
  z173 := Tryd.sizeOf43
  v173 := Tryd.zeroValue43
  t212 := Tryd.underlying47
  a212 := Tryd.isAgg47
  z212 := Tryd.sizeOf47
  v212 := Tryd.zeroValue47
  t213 := Tryd.underlying49
  a213 := Tryd.isAgg49
  z213 := Tryd.sizeOf49
  t232 := Tryd.underlying54
  a232 := Tryd.isAgg54
  z232 := Tryd.sizeOf54
  v232 := Tryd.zeroValue54
  t233 := Tryd.underlying55
  a233 := Tryd.isAgg55
  z233 := Tryd.sizeOf55
  v233 := Tryd.zeroValue55
  g17 := by kernel_rfl
  g18 := by kernel_rfl
  g19 := by kernel_rfl
  i0 := by kernel_rfl
  i2 := by kernel_rfl
  i3 := by kernel_rfl
  i4 := by kernel_rfl
  i5 := by kernel_rfl
  i9 := by kernel_rfl
  i20 := by kernel_rfl
  i37 := by kernel_rfl
  i46 := by kernel_rfl
  i51 := by kernel_rfl
  i53 := by kernel_rfl
  i171 := by kernel_rfl
  i173 := by kernel_rfl
  i212 := by kernel_rfl
  i232 := by kernel_rfl
  i233 := by kernel_rfl
  m17 := by kernel_rfl
  m18 := by kernel_rfl
  m19 := by kernel_rfl }

/-- The name of the table of powers of ten, as the given row lists it. -/
def Tryd.powName : String := (Qxb6003358aDoor.Rows.fnRcodeNamesEachCodeOnceRow.laid.map Prod.fst).getLastD (String.ofList [])

/-- strconv.Itoa: the decimal numeral, for every int; the world behind the call: the world before it, new blocks behind the heap, draws. -/
theorem Tryd.strconv_Itoa (n : Int) (h0 : -9223372036854775808 ≤ n) (h1 : n ≤ 9223372036854775807) (w : World) (htab : Lib.TabIs Tryd.prog w Tryd.powName .u64 Lib.pow10Tab) :
    Calls Tryd.prog 9 #[.int .i64 n] w fun e w' => e = .returned (.string ⟨(Lib.itoa n).toArray⟩) ∧ ∃ k os, w' = Sort.grow (w.drewN k) os := Any.strconv_Itoa Tryd.laysM171 n h0 h1 w htab
end Go.Proofs
