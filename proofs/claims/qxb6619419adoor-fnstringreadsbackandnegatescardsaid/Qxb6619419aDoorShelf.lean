/-
  THE SHELF's CONTRACT OF internal/strconv.AppendUint AT BASE 10, laid at this dump by the kit's lay-shelf and lay-plain (the table of numbers and one theorem, a field a fact of the dump's own or the kernel's comparison), and one contract out of its two. The table's name is read off the given row (so no name is typed here).
-/
import Derived.Shelf.LaysM
import Derived.Shelf.Strconv.AppendUint10
import Derived.Test.Qxb6619419aDoorRows
namespace Go.Proofs
open Go.Shelf
def Tryd.laysM288_ren : Go.Shelf.Ren := ⟨fun | 288 => 13 | 283 => 14 | 284 => 15 | 285 => 16 | 286 => 17 | 129 => 19 | 317 => 18 | 318 => 20 | 319 => 21 | 320 => 22 | 337 => 23 | 338 => 24 | n => n, fun | 37 => 33 | 53 => 24 | 3 => 3 | 4 => 4 | 9 => 9 | 171 => 36 | 0 => 0 | 173 => 39 | 212 => 43 | 51 => 44 | 5 => 5 | 20 => 20 | 213 => 45 | 46 => 47 | 232 => 50 | 233 => 51 | n => n, fun | 17 => 0 | 18 => 1 | 19 => 2 | n => n⟩
theorem Tryd.laysM288 : Go.Proofs.LaysM.n288 Tryd.prog Tryd.laysM288_ren := {
  mixed := by kernel_rfl
  f129 := Tryd.func19.trans (congrArg some (by kernel_rfl))
  f283 := Tryd.func14.trans (congrArg some (by kernel_rfl))
  f284 := Tryd.func15.trans (congrArg some (by kernel_rfl))
  f285 := Tryd.func16.trans (congrArg some (by kernel_rfl))
  f286 := Tryd.func17.trans (congrArg some (by kernel_rfl))
  f288 := Tryd.func13.trans (congrArg some (by kernel_rfl))
  f317 := Tryd.func18.trans (congrArg some (by kernel_rfl))
  f318 := Tryd.func20.trans (congrArg some (by kernel_rfl))
  f319 := Tryd.func21.trans (congrArg some (by kernel_rfl))
  f320 := Tryd.func22.trans (congrArg some (by kernel_rfl))
  f337 := Tryd.func23.trans (congrArg some (by kernel_rfl))
  f338 := Tryd.func24.trans (congrArg some (by kernel_rfl))
  t0 := Tryd.underlying0
  a0 := Tryd.isAgg0
  z0 := Tryd.sizeOf0
  v0 := Tryd.zeroValue0
  t3 := Tryd.underlying3
  a3 := Tryd.isAgg3
  z3 := Tryd.sizeOf3
  v3 := Tryd.zeroValue3
  t4 := Tryd.underlying4
  a4 := Tryd.isAgg4
  z4 := Tryd.sizeOf4
  v4 := Tryd.zeroValue4
  t5 := Tryd.underlying5
  a5 := Tryd.isAgg5
  z5 := Tryd.sizeOf5
  v5 := Tryd.zeroValue5
  t9 := Tryd.underlying9
  a9 := Tryd.isAgg9
  z9 := Tryd.sizeOf9
  v9 := Tryd.zeroValue9
  t20 := Tryd.underlying20
  a20 := Tryd.isAgg20
  z20 := Tryd.sizeOf20
  v20 := Tryd.zeroValue20
  t37 := Tryd.underlying33
  a37 := Tryd.isAgg33
  z37 := Tryd.sizeOf33
  v37 := Tryd.zeroValue33
  t46 := Tryd.underlying47
  a46 := Tryd.isAgg47
  z46 := Tryd.sizeOf47
  v46 := Tryd.zeroValue47
  t51 := Tryd.underlying44
  a51 := Tryd.isAgg44
  z51 := Tryd.sizeOf44
  v51 := Tryd.zeroValue44
  t53 := Tryd.underlying24
  a53 := Tryd.isAgg24
  z53 := Tryd.sizeOf24
  v53 := Tryd.zeroValue24
  t171 := Tryd.underlying36
  a171 := Tryd.isAgg36
  z171 := Tryd.sizeOf36
  v171 := Tryd.zeroValue36
  t173 := Tryd.underlying39
  a173 := Tryd.isAgg39
  z173 := Tryd.sizeOf39
  v173 := Tryd.zeroValue39
  t212 := Tryd.underlying43
  a212 := Tryd.isAgg43
  z212 := Tryd.sizeOf43
  v212 := Tryd.zeroValue43
  t213 := Tryd.underlying45
  a213 := Tryd.isAgg45
  z213 := Tryd.sizeOf45
  t232 := Tryd.underlying50
  a232 := Tryd.isAgg50
  z232 := Tryd.sizeOf50
  v232 := Tryd.zeroValue50
  t233 := Tryd.underlying51
  a233 := Tryd.isAgg51
  z233 := Tryd.sizeOf51
  v233 := Tryd.zeroValue51
  g17 := by kernel_rfl
  g18 := by kernel_rfl
  g19 := by kernel_rfl
  i0 := by kernel_rfl
  i3 := by kernel_rfl
  i4 := by kernel_rfl
  i5 := by kernel_rfl
  i9 := by kernel_rfl
  i20 := by kernel_rfl
  i37 := by kernel_rfl
  i46 := by kernel_rfl
  i51 := by kernel_rfl
  i53 := by kernel_rfl
  i171 := by kernel_rfl
  i173 := by kernel_rfl
  i212 := by kernel_rfl
  i232 := by kernel_rfl
  i233 := by kernel_rfl
  m17 := by kernel_rfl
  m18 := by kernel_rfl
  m19 := by kernel_rfl }
end Go.Proofs

namespace Go.Proofs.Qxb6619419aDoor
open Go.RowKit

/-- The name of the library's table of powers of ten, as the given rows list it. -/
def powName : String := Rows.fnStringAddsOneMajorUnitRow.named.headD default

/-- internal/strconv.AppendUint(dst, u, 10), every u. -/
theorem appendUint (B n u : Nat) (hu64 : u < 18446744073709551616) (sv : Value) (xs : List Value) (w : World) (hown : w.ownsRow B 5 1 sv n xs) (hBw : B ≤ w.heap.size) (hlim : n + 20 ≤ 140737488355328)
    (htab : Lib.TabIs Tryd.prog w powName .u64 Lib.pow10Tab) :
    Calls Tryd.prog 13 #[sv, .int .u64 u, .int .i64 10] w fun e w' => ∃ v', e = .returned v' ∧ w'.ownsRow B 5 1 v' (n + (Lib.decDigits u).length) (xs ++ Lib.byteCells (Lib.decDigits u)) ∧ Below B w w' := by
  by_cases hu : u < 100
  · exact (Any.internal_strconv_AppendUint_10_small Tryd.laysM288 B n u hu sv xs w hown hBw hlim).mono fun e w' ⟨v', h1, h2, h3, _⟩ => ⟨v', h1, h2, h3⟩
  · exact (Any.internal_strconv_AppendUint_10_big Tryd.laysM288 B n u (by omega) hu64 sv xs w hown hBw hlim htab).mono fun e w' ⟨v', h1, h2, h3, _⟩ => ⟨v', h1, h2, h3⟩
end Go.Proofs.Qxb6619419aDoor
