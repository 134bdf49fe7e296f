/-
  DERIVED: THE SHELF's CONTRACTS AT THIS DUMP, IN PLAIN WORDS (tools/lay-plain.mjs out of 'YbulkdftuFmtShelf.lean', which tools/lay-shelf.mjs wrote): THE SAME DECLARATIONS UNDER THE SAME NAMES: 'import', 'namespace', 'open', 'def', 'theorem' AND NOTHING ELSE: no command of the shelf's: FOR A HAND-IN. Each laying: the table of numbers ('.._ren') and one theorem, a field a fact of the dump's own or the kernel's comparison; each contract: ONE APPLICATION.
-/
import Derived.Shelf.Strconv.Itoa0
import Derived.Shelf.Strconv.Itoa1
import Derived.Shelf.LaysM
import Derived.Shelf.Strconv.Itoa2
import Derived.Shelf.Strconv.Itoa3
import Derived.Test.YbulkdftuFmtRows
namespace Go.Proofs
open Go.Shelf
def Ybaf.laysM171_ren : Go.Shelf.Ren := ⟨fun | 171 => 8 | 243 => 12 | 246 => 18 | 283 => 27 | 284 => 28 | 285 => 29 | 286 => 30 | 129 => 35 | 317 => 34 | 318 => 36 | 319 => 37 | 320 => 38 | 337 => 43 | 338 => 44 | n => n, fun | 3 => 3 | 9 => 9 | 2 => 2 | 4 => 4 | 171 => 50 | 0 => 0 | 53 => 51 | 37 => 43 | 5 => 5 | 173 => 54 | 212 => 67 | 51 => 68 | 20 => 20 | 213 => 69 | 46 => 61 | 232 => 80 | 233 => 81 | n => n, fun | 17 => 2 | 18 => 3 | 19 => 4 | n => n⟩
theorem Ybaf.laysM171 : Go.Proofs.LaysM.n171 Ybaf.prog Ybaf.laysM171_ren := {
  mixed := by kernel_rfl
  f129 := Ybaf.func35.trans (congrArg some (by kernel_rfl))
  f171 := Ybaf.func8.trans (congrArg some (by kernel_rfl))
  f243 := Ybaf.func12.trans (congrArg some (by kernel_rfl))
  f246 := Ybaf.func18.trans (congrArg some (by kernel_rfl))
  f283 := Ybaf.func27.trans (congrArg some (by kernel_rfl))
  f284 := Ybaf.func28.trans (congrArg some (by kernel_rfl))
  f285 := Ybaf.func29.trans (congrArg some (by kernel_rfl))
  f286 := Ybaf.func30.trans (congrArg some (by kernel_rfl))
  f317 := Ybaf.func34.trans (congrArg some (by kernel_rfl))
  f318 := Ybaf.func36.trans (congrArg some (by kernel_rfl))
  f319 := Ybaf.func37.trans (congrArg some (by kernel_rfl))
  f320 := Ybaf.func38.trans (congrArg some (by kernel_rfl))
  f337 := Ybaf.func43.trans (congrArg some (by kernel_rfl))
  f338 := Ybaf.func44.trans (congrArg some (by kernel_rfl))
  t0 := Ybaf.underlying0
  a0 := Ybaf.isAgg0
  z0 := Ybaf.sizeOf0
  v0 := Ybaf.zeroValue0
  t2 := Ybaf.underlying2
  a2 := Ybaf.isAgg2
  z2 := Ybaf.sizeOf2
  v2 := Ybaf.zeroValue2
  t3 := Ybaf.underlying3
  a3 := Ybaf.isAgg3
  z3 := Ybaf.sizeOf3
  v3 := Ybaf.zeroValue3
  t4 := Ybaf.underlying4
  a4 := Ybaf.isAgg4
  z4 := Ybaf.sizeOf4
  v4 := Ybaf.zeroValue4
  t5 := Ybaf.underlying5
  a5 := Ybaf.isAgg5
  z5 := Ybaf.sizeOf5
  v5 := Ybaf.zeroValue5
  t9 := Ybaf.underlying9
  a9 := Ybaf.isAgg9
  z9 := Ybaf.sizeOf9
  v9 := Ybaf.zeroValue9
  t20 := Ybaf.underlying20
  a20 := Ybaf.isAgg20
  z20 := Ybaf.sizeOf20
  v20 := Ybaf.zeroValue20
  t37 := Ybaf.underlying43
  a37 := Ybaf.isAgg43
  z37 := Ybaf.sizeOf43
  v37 := Ybaf.zeroValue43
  t46 := Ybaf.underlying61
  a46 := Ybaf.isAgg61
  z46 := Ybaf.sizeOf61
  v46 := Ybaf.zeroValue61
  t51 := Ybaf.underlying68
  a51 := Ybaf.isAgg68
  z51 := Ybaf.sizeOf68
  v51 := Ybaf.zeroValue68
  t53 := Ybaf.underlying51
  a53 := Ybaf.isAgg51
  z53 := Ybaf.sizeOf51
  v53 := Ybaf.zeroValue51
  t171 := Ybaf.underlying50
  a171 := Ybaf.isAgg50
  z171 := Ybaf.sizeOf50
  v171 := Ybaf.zeroValue50
  t173 := Ybaf.underlying54
  a173 := Ybaf.isAgg54
  z173 := Ybaf.sizeOf54
  v173 := Ybaf.zeroValue54
  t212 := Ybaf.underlying67
  a212 := Ybaf.isAgg67
  z212 := Ybaf.sizeOf67
  v212 := Ybaf.zeroValue67
  t213 := Ybaf.underlying69
  a213 := Ybaf.isAgg69
  z213 := Ybaf.sizeOf69
  t232 := Ybaf.underlying80
  a232 := Ybaf.isAgg80
  z232 := Ybaf.sizeOf80
  v232 := Ybaf.zeroValue80
  t233 := Ybaf.underlying81
  a233 := Ybaf.isAgg81
  z233 := Ybaf.sizeOf81
  v233 := Ybaf.zeroValue81
  g17 := by kernel_rfl
  g18 := by kernel_rfl
  g19 := by kernel_rfl
  i0 := by kernel_rfl
  i2 := by kernel_rfl
  i3 := by kernel_rfl
  i4 := by kernel_rfl
  i5 := by kernel_rfl
  i9 := by kernel_rfl
  i20 := by kernel_rfl
  i37 := by kernel_rfl
  i46 := by kernel_rfl
  i51 := by kernel_rfl
  i53 := by kernel_rfl
  i171 := by kernel_rfl
  i173 := by kernel_rfl
  i212 := by kernel_rfl
  i232 := by kernel_rfl
  i233 := by kernel_rfl
  m17 := by kernel_rfl
  m18 := by kernel_rfl
  m19 := by kernel_rfl }
/-- The name of the table of powers of ten: the first of the row's named variables. -/
def Ybaf.powName : String := YbulkdftuFmt.Rows.lawS5350CRangeRow.named.headD ""
open Go.RowKit Go.Sort Go.Lib in
/-- strconv.Itoa at this dump (laid: one application). -/
theorem Ybaf.strconv_Itoa (n : Int) (h0 : -9223372036854775808 ≤ n) (h1 : n ≤ 9223372036854775807) (w : World) (htab : Lib.TabIs Ybaf.prog w Ybaf.powName .u64 Lib.pow10Tab) :
    Calls Ybaf.prog 8 #[.int .i64 n] w fun e w' => e = .returned (.string ⟨(Lib.itoa n).toArray⟩) ∧ ∃ k os, w' = grow (w.drewN k) os := Any.strconv_Itoa Ybaf.laysM171 n h0 h1 w htab
end Go.Proofs
