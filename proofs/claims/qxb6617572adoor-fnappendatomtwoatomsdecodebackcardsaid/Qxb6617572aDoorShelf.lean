/-
  DERIVED: THE SHELF's CONTRACTS AT THIS DUMP, IN PLAIN WORDS (tools/lay-plain.mjs out of 'Qxb6617572aDoorShelf.lean', which tools/lay-shelf.mjs wrote): THE SAME DECLARATIONS UNDER THE SAME NAMES: 'import', 'namespace', 'open', 'def', 'theorem' AND NOTHING ELSE: no command of the shelf's: FOR A HAND-IN. Each laying: the table of numbers ('.._ren') and one theorem, a field a fact of the dump's own or the kernel's comparison; each contract: ONE APPLICATION.
-/
import Derived.Shelf.Strconv.AppendIntPublic10
import Derived.Test.Qxb6617572aDoorRows
namespace Go.Proofs
open Go.Shelf
def Tryd.lays176_ren : Go.Shelf.Ren := ⟨fun | 176 => 12 | 249 => 13 | 288 => 14 | 283 => 15 | 284 => 16 | 285 => 17 | 286 => 18 | 129 => 20 | 317 => 19 | 318 => 21 | 319 => 22 | 320 => 23 | 337 => 24 | 338 => 25 | n => n, fun | 37 => 22 | 2 => 2 | 3 => 3 | 53 => 30 | 4 => 4 | 9 => 9 | 171 => 33 | 0 => 0 | 173 => 36 | 212 => 40 | 51 => 41 | 5 => 5 | 20 => 20 | 213 => 42 | 46 => 44 | 232 => 47 | 233 => 48 | n => n, fun | 17 => 0 | 18 => 1 | 19 => 2 | n => n⟩
theorem Tryd.lays176 : Go.Proofs.LaysM.n176 Tryd.prog Tryd.lays176_ren := {
  mixed := by kernel_rfl
  f129 := Tryd.func20.trans (congrArg some (by kernel_rfl))
  f176 := Tryd.func12.trans (congrArg some (by kernel_rfl))
  f249 := Tryd.func13.trans (congrArg some (by kernel_rfl))
  f283 := Tryd.func15.trans (congrArg some (by kernel_rfl))
  f284 := Tryd.func16.trans (congrArg some (by kernel_rfl))
  f285 := Tryd.func17.trans (congrArg some (by kernel_rfl))
  f286 := Tryd.func18.trans (congrArg some (by kernel_rfl))
  f288 := Tryd.func14.trans (congrArg some (by kernel_rfl))
  f317 := Tryd.func19.trans (congrArg some (by kernel_rfl))
  f318 := Tryd.func21.trans (congrArg some (by kernel_rfl))
  f319 := Tryd.func22.trans (congrArg some (by kernel_rfl))
  f320 := Tryd.func23.trans (congrArg some (by kernel_rfl))
  f337 := Tryd.func24.trans (congrArg some (by kernel_rfl))
  f338 := Tryd.func25.trans (congrArg some (by kernel_rfl))
  t0 := Tryd.underlying0
  a0 := Tryd.isAgg0
  z0 := Tryd.sizeOf0
  v0 := Tryd.zeroValue0
  t2 := Tryd.underlying2
  a2 := Tryd.isAgg2
  z2 := Tryd.sizeOf2
  v2 := Tryd.zeroValue2
  t3 := Tryd.underlying3
  a3 := Tryd.isAgg3
  z3 := Tryd.sizeOf3
  v3 := Tryd.zeroValue3
  t4 := Tryd.underlying4
  a4 := Tryd.isAgg4
  z4 := Tryd.sizeOf4
  v4 := Tryd.zeroValue4
  t5 := Tryd.underlying5
  a5 := Tryd.isAgg5
  z5 := Tryd.sizeOf5
  v5 := Tryd.zeroValue5
  t9 := Tryd.underlying9
  a9 := Tryd.isAgg9
  z9 := Tryd.sizeOf9
  v9 := Tryd.zeroValue9
  t20 := Tryd.underlying20
  a20 := Tryd.isAgg20
  z20 := Tryd.sizeOf20
  v20 := Tryd.zeroValue20
  t37 := Tryd.underlying22
  a37 := Tryd.isAgg22
  z37 := Tryd.sizeOf22
  v37 := Tryd.zeroValue22
  t46 := Tryd.underlying44
  a46 := Tryd.isAgg44
  z46 := Tryd.sizeOf44
  v46 := Tryd.zeroValue44
  t51 := Tryd.underlying41
  a51 := Tryd.isAgg41
  z51 := Tryd.sizeOf41
  v51 := Tryd.zeroValue41
  t53 := Tryd.underlying30
  a53 := Tryd.isAgg30
  z53 := Tryd.sizeOf30
  v53 := Tryd.zeroValue30
  t171 := Tryd.underlying33
  a171 := Tryd.isAgg33
  z171 := Tryd.sizeOf33
  v171 := Tryd.zeroValue33
  t173 := Tryd.underlying36
  a173 := Tryd.isAgg36
  z173 := Tryd.sizeOf36
  v173 := Tryd.zeroValue36
  t212 := Tryd.underlying40
  a212 := Tryd.isAgg40
  z212 := Tryd.sizeOf40
  v212 := Tryd.zeroValue40
  t213 := Tryd.underlying42
  a213 := Tryd.isAgg42
  z213 := Tryd.sizeOf42
  t232 := Tryd.underlying47
  a232 := Tryd.isAgg47
  z232 := Tryd.sizeOf47
  v232 := Tryd.zeroValue47
  t233 := Tryd.underlying48
  a233 := Tryd.isAgg48
  z233 := Tryd.sizeOf48
  v233 := Tryd.zeroValue48
  g17 := by kernel_rfl
  g18 := by kernel_rfl
  g19 := by kernel_rfl
  i0 := by kernel_rfl
  i2 := by kernel_rfl
  i3 := by kernel_rfl
  i4 := by kernel_rfl
  i5 := by kernel_rfl
  i9 := by kernel_rfl
  i20 := by kernel_rfl
  i37 := by kernel_rfl
  i46 := by kernel_rfl
  i51 := by kernel_rfl
  i53 := by kernel_rfl
  i171 := by kernel_rfl
  i173 := by kernel_rfl
  i212 := by kernel_rfl
  i232 := by kernel_rfl
  i233 := by kernel_rfl
  m17 := by kernel_rfl
  m18 := by kernel_rfl
  m19 := by kernel_rfl }
/-- the name of the table that strconv reads: the third name of the row's own list -/
def Qxb6617572aDoor.powName : String := match Qxb6617572aDoor.Rows.fnAppendAtomPrefixFreeRow.laid with | [_, _, x] => x.1 | _ => ""
/-- strconv.AppendInt at base 10, at this dump's numbers: the shelf's contract, one application -/
theorem Tryd.appendInt (B n : Nat) (i : Int) (h0 : -9223372036854775808 ≤ i) (h1 : i ≤ 9223372036854775807) (sv : Value) (xs : List Value) (w : World) (hown : w.ownsRow B 5 1 sv n xs) (hBw : B ≤ w.heap.size) (hlim : n + 21 ≤ 140737488355328)
    (htab : Lib.TabBelow Tryd.prog B w Qxb6617572aDoor.powName .u64 Lib.pow10Tab) :
    Calls Tryd.prog 12 #[sv, .int .i64 i, .int .i64 10] w fun e w' => ∃ v', e = .returned v' ∧ w'.ownsRow B 5 1 v' (n + (Lib.itoa i).length) (xs ++ Lib.byteCells (Lib.itoa i)) ∧ RowKit.Below B w w' ∧ Lib.OthersKept 5 none w w' :=
  Any.strconv_AppendInt_10 Tryd.lays176 B n i h0 h1 sv xs w hown hBw hlim htab
end Go.Proofs
