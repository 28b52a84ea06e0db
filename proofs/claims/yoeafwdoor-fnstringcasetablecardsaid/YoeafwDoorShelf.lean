/-
  The shelf's contract of strconv.Itoa, laid at this program (by the kit's lay-shelf and lay-plain, cut down to the one that the road needs).
-/
import Derived.Shelf.LaysM
import Derived.Shelf.Strconv.Itoa3
import Derived.Test.YoeafwDoorRows
namespace Go.Proofs.YoeafwDoor
open Go.Shelf
def Eafg.laysM171_ren : Go.Shelf.Ren := ⟨fun | 171 => 17 | 243 => 18 | 246 => 19 | 283 => 20 | 284 => 21 | 285 => 22 | 286 => 23 | 129 => 25 | 317 => 24 | 318 => 26 | 319 => 27 | 320 => 28 | 337 => 29 | 338 => 30 | n => n, fun | 3 => 3 | 9 => 9 | 2 => 2 | 4 => 4 | 171 => 34 | 0 => 0 | 53 => 33 | 37 => 35 | 5 => 5 | 173 => 40 | 212 => 44 | 51 => 45 | 20 => 20 | 213 => 46 | 46 => 47 | 232 => 50 | 233 => 51 | n => n, fun | 17 => 1 | 18 => 2 | 19 => 3 | n => n⟩
theorem Eafg.laysM171 : Go.Proofs.LaysM.n171 Eafg.prog Eafg.laysM171_ren := {
  mixed := by kernel_rfl
  f129 := Eafg.func25.trans (congrArg some (by kernel_rfl))
  f171 := Eafg.func17.trans (congrArg some (by kernel_rfl))
  f243 := Eafg.func18.trans (congrArg some (by kernel_rfl))
  f246 := Eafg.func19.trans (congrArg some (by kernel_rfl))
  f283 := Eafg.func20.trans (congrArg some (by kernel_rfl))
  f284 := Eafg.func21.trans (congrArg some (by kernel_rfl))
  f285 := Eafg.func22.trans (congrArg some (by kernel_rfl))
  f286 := Eafg.func23.trans (congrArg some (by kernel_rfl))
  f317 := Eafg.func24.trans (congrArg some (by kernel_rfl))
  f318 := Eafg.func26.trans (congrArg some (by kernel_rfl))
  f319 := Eafg.func27.trans (congrArg some (by kernel_rfl))
  f320 := Eafg.func28.trans (congrArg some (by kernel_rfl))
  f337 := Eafg.func29.trans (congrArg some (by kernel_rfl))
  f338 := Eafg.func30.trans (congrArg some (by kernel_rfl))
  t0 := Eafg.underlying0
  a0 := Eafg.isAgg0
  z0 := Eafg.sizeOf0
  v0 := Eafg.zeroValue0
  t2 := Eafg.underlying2
  a2 := Eafg.isAgg2
  z2 := Eafg.sizeOf2
  v2 := Eafg.zeroValue2
  t3 := Eafg.underlying3
  a3 := Eafg.isAgg3
  z3 := Eafg.sizeOf3
  v3 := Eafg.zeroValue3
  t4 := Eafg.underlying4
  a4 := Eafg.isAgg4
  z4 := Eafg.sizeOf4
  v4 := Eafg.zeroValue4
  t5 := Eafg.underlying5
  a5 := Eafg.isAgg5
  z5 := Eafg.sizeOf5
  v5 := Eafg.zeroValue5
  t9 := Eafg.underlying9
  a9 := Eafg.isAgg9
  z9 := Eafg.sizeOf9
  v9 := Eafg.zeroValue9
  t20 := Eafg.underlying20
  a20 := Eafg.isAgg20
  z20 := Eafg.sizeOf20
  v20 := Eafg.zeroValue20
  t37 := Eafg.underlying35
  a37 := Eafg.isAgg35
  z37 := Eafg.sizeOf35
  v37 := Eafg.zeroValue35
  t46 := Eafg.underlying47
  a46 := Eafg.isAgg47
  z46 := Eafg.sizeOf47
  v46 := Eafg.zeroValue47
  t51 := Eafg.underlying45
  a51 := Eafg.isAgg45
  z51 := Eafg.sizeOf45
  v51 := Eafg.zeroValue45
  t53 := Eafg.underlying33
  a53 := Eafg.isAgg33
  z53 := Eafg.sizeOf33
  v53 := Eafg.zeroValue33
  t171 := Eafg.underlying34
  a171 := Eafg.isAgg34
  z171 := Eafg.sizeOf34
  v171 := Eafg.zeroValue34
  t173 := Eafg.underlying40
  a173 := Eafg.isAgg40
  z173 := Eafg.sizeOf40
  v173 := Eafg.zeroValue40
  t212 := Eafg.underlying44
  a212 := Eafg.isAgg44
  z212 := Eafg.sizeOf44
  v212 := Eafg.zeroValue44
  t213 := Eafg.underlying46
  a213 := Eafg.isAgg46
  z213 := Eafg.sizeOf46
  t232 := Eafg.underlying50
  a232 := Eafg.isAgg50
  z232 := Eafg.sizeOf50
  v232 := Eafg.zeroValue50
  t233 := Eafg.underlying51
  a233 := Eafg.isAgg51
  z233 := Eafg.sizeOf51
  v233 := Eafg.zeroValue51
  g17 := by kernel_rfl
  g18 := by kernel_rfl
  g19 := by kernel_rfl
  i0 := by kernel_rfl
  i2 := by kernel_rfl
  i3 := by kernel_rfl
  i4 := by kernel_rfl
  i5 := by kernel_rfl
  i9 := by kernel_rfl
  i20 := by kernel_rfl
  i37 := by kernel_rfl
  i46 := by kernel_rfl
  i51 := by kernel_rfl
  i53 := by kernel_rfl
  i171 := by kernel_rfl
  i173 := by kernel_rfl
  i212 := by kernel_rfl
  i232 := by kernel_rfl
  i233 := by kernel_rfl
  m17 := by kernel_rfl
  m18 := by kernel_rfl
  m19 := by kernel_rfl }
open Go.RowKit Go.Sort Go.Lib in
/-- strconv.Itoa at every int: the decimal numeral; new blocks and draws besides. The table's name is the row's own (the second of 'named'). -/
theorem Eafg.strconv_Itoa (n : Int) (h0 : -9223372036854775808 ≤ n) (h1 : n ≤ 9223372036854775807) (w : World) (htab : Lib.TabIs Eafg.prog w (Rows.fnStringCaseTableRow.named.getD 1 "") .u64 Lib.pow10Tab) :
    Calls Eafg.prog 17 #[.int .i64 n] w fun e w' => e = .returned (.string ⟨(Lib.itoa n).toArray⟩) ∧ ∃ k os, w' = grow (w.drewN k) os := Any.strconv_Itoa Eafg.laysM171 n h0 h1 w htab
end Go.Proofs.YoeafwDoor
