/-
  DERIVED: THE SHELF's CONTRACTS AT THIS DUMP, IN PLAIN WORDS (tools/lay-plain.mjs out of 'TrydShelf.lean', which tools/lay-shelf.mjs wrote): THE SAME DECLARATIONS UNDER THE SAME NAMES: 'import', 'namespace', 'open', 'def', 'theorem' AND NOTHING ELSE: no command of the shelf's: FOR A HAND-IN. Each laying: the table of numbers ('.._ren') and one theorem, a field a fact of the dump's own or the kernel's comparison; each contract: ONE APPLICATION.
-/
import Derived.Shelf.Strconv.Itoa0
import Derived.Shelf.Strconv.Itoa1
import Derived.Shelf.LaysM
import Derived.Shelf.Strconv.Itoa2
import Derived.Shelf.Strconv.Itoa3
import Derived.Test.Qxb6632655aDoorProg
import Derived.Test.Qxb6632655aDoorRows
namespace Go.Proofs
open Go.Shelf
/-- The name of the table of powers of ten, as the given row spells it. -/
abbrev Tryd.powName : String := Go.Proofs.Qxb6632655aDoor.Rows.fnPreludeDecodesBackToCredentialsAndDBRow.named.headD ""
def Tryd.laysM171_ren : Go.Shelf.Ren := ⟨fun | 171 => 13 | 243 => 14 | 246 => 15 | 283 => 16 | 284 => 17 | 285 => 18 | 286 => 19 | 129 => 21 | 317 => 20 | 318 => 22 | 319 => 23 | 320 => 24 | 337 => 25 | 338 => 26 | n => n, fun | 3 => 3 | 9 => 9 | 2 => 2 | 4 => 4 | 171 => 35 | 0 => 0 | 53 => 34 | 37 => 36 | 5 => 5 | 173 => 40 | 212 => 44 | 51 => 45 | 20 => 20 | 213 => 46 | 46 => 48 | 232 => 51 | 233 => 52 | n => n, fun | 17 => 0 | 18 => 1 | 19 => 2 | n => n⟩
theorem Tryd.laysM171 : Go.Proofs.LaysM.n171 Tryd.prog Tryd.laysM171_ren := {
  mixed := by kernel_rfl
  f129 := Tryd.func21.trans (congrArg some (by kernel_rfl))
  f171 := Tryd.func13.trans (congrArg some (by kernel_rfl))
  f243 := Tryd.func14.trans (congrArg some (by kernel_rfl))
  f246 := Tryd.func15.trans (congrArg some (by kernel_rfl))
  f283 := Tryd.func16.trans (congrArg some (by kernel_rfl))
  f284 := Tryd.func17.trans (congrArg some (by kernel_rfl))
  f285 := Tryd.func18.trans (congrArg some (by kernel_rfl))
  f286 := Tryd.func19.trans (congrArg some (by kernel_rfl))
  f317 := Tryd.func20.trans (congrArg some (by kernel_rfl))
  f318 := Tryd.func22.trans (congrArg some (by kernel_rfl))
  f319 := Tryd.func23.trans (congrArg some (by kernel_rfl))
  f320 := Tryd.func24.trans (congrArg some (by kernel_rfl))
  f337 := Tryd.func25.trans (congrArg some (by kernel_rfl))
  f338 := Tryd.func26.trans (congrArg some (by kernel_rfl))
  t0 := Tryd.underlying0
  a0 := Tryd.isAgg0
  z0 := Tryd.sizeOf0
  v0 := Tryd.zeroValue0
  t2 := Tryd.underlying2
  a2 := Tryd.isAgg2
  z2 := Tryd.sizeOf2
  v2 := Tryd.zeroValue2
  t3 := Tryd.underlying3
  a3 := Tryd.isAgg3
  z3 := Tryd.sizeOf3
  v3 := Tryd.zeroValue3
  t4 := Tryd.underlying4
  a4 := Tryd.isAgg4
  z4 := Tryd.sizeOf4
  v4 := Tryd.zeroValue4
  t5 := Tryd.underlying5
  a5 := Tryd.isAgg5
  z5 := Tryd.sizeOf5
  v5 := Tryd.zeroValue5
  t9 := Tryd.underlying9
  a9 := Tryd.isAgg9
  z9 := Tryd.sizeOf9
  v9 := Tryd.zeroValue9
  t20 := Tryd.underlying20
  a20 := Tryd.isAgg20
  z20 := Tryd.sizeOf20
  v20 := Tryd.zeroValue20
  t37 := Tryd.underlying36
  a37 := Tryd.isAgg36
  z37 := Tryd.sizeOf36
  v37 := Tryd.zeroValue36
  t46 := Tryd.underlying48
  a46 := Tryd.isAgg48
  z46 := Tryd.sizeOf48
  v46 := Tryd.zeroValue48
  t51 := Tryd.underlying45
  a51 := Tryd.isAgg45
  z51 := Tryd.sizeOf45
  v51 := Tryd.zeroValue45
  t53 := Tryd.underlying34
  a53 := Tryd.isAgg34
  z53 := Tryd.sizeOf34
  v53 := Tryd.zeroValue34
  t171 := Tryd.underlying35
  a171 := Tryd.isAgg35
  z171 := Tryd.sizeOf35
  v171 := Tryd.zeroValue35
  t173 := Tryd.underlying40
  a173 := Tryd.isAgg40
  z173 := Tryd.sizeOf40
  v173 := Tryd.zeroValue40
  t212 := Tryd.underlying44
  a212 := Tryd.isAgg44
  z212 := Tryd.sizeOf44
  v212 := Tryd.zeroValue44
  t213 := Tryd.underlying46
  a213 := Tryd.isAgg46
  z213 := Tryd.sizeOf46
  t232 := Tryd.underlying51
  a232 := Tryd.isAgg51
  z232 := Tryd.sizeOf51
  v232 := Tryd.zeroValue51
  t233 := Tryd.underlying52
  a233 := Tryd.isAgg52
  z233 := Tryd.sizeOf52
  v233 := Tryd.zeroValue52
  g17 := by kernel_rfl
  g18 := by kernel_rfl
  g19 := by kernel_rfl
  i0 := by kernel_rfl
  i2 := by kernel_rfl
  i3 := by kernel_rfl
  i4 := by kernel_rfl
  i5 := by kernel_rfl
  i9 := by kernel_rfl
  i20 := by kernel_rfl
  i37 := by kernel_rfl
  i46 := by kernel_rfl
  i51 := by kernel_rfl
  i53 := by kernel_rfl
  i171 := by kernel_rfl
  i173 := by kernel_rfl
  i212 := by kernel_rfl
  i232 := by kernel_rfl
  i233 := by kernel_rfl
  m17 := by kernel_rfl
  m18 := by kernel_rfl
  m19 := by kernel_rfl }
open Go.RowKit Go.Sort Go.Lib in
/-- strconv.Itoa: i's DECIMAL NUMERAL ('Lib.itoa': a '-' where i is negative, then the digits), FOR EVERY int. The world behind the call: the world before it, new blocks behind the heap (the library's 'var a [24]byte'), draws. (LAID: no walk: one application.) -/
theorem Tryd.strconv_Itoa (n : Int) (h0 : -9223372036854775808 ≤ n) (h1 : n ≤ 9223372036854775807) (w : World) (htab : Lib.TabIs Tryd.prog w Tryd.powName .u64 Lib.pow10Tab) :
    Calls Tryd.prog 13 #[.int .i64 n] w fun e w' => e = .returned (.string ⟨(Lib.itoa n).toArray⟩) ∧ ∃ k os, w' = grow (w.drewN k) os := Any.strconv_Itoa Tryd.laysM171 n h0 h1 w htab
end Go.Proofs
