/-
  DERIVED: THE SHELF's CONTRACTS AT THIS DUMP, IN PLAIN WORDS (tools/lay-plain.mjs out of 'YbulkiiyDoorShelf.lean', which tools/lay-shelf.mjs wrote): THE SAME DECLARATIONS UNDER THE SAME NAMES: 'import', 'namespace', 'open', 'def', 'theorem' AND NOTHING ELSE: no command of the shelf's: FOR A HAND-IN. Each laying: the table of numbers ('.._ren') and one theorem, a field a fact of the dump's own or the kernel's comparison; each contract: ONE APPLICATION.
-/
import Derived.Shelf.LaysM
import Derived.Shelf.Strconv.AppendIntPublic10
import Derived.Shelf.Bytes.SlEqualAll
import Derived.Test.YbulkiiyDoorRows
namespace Go.Proofs.YbulkiiyDoor
open Go.Shelf
def Ybad.laysM176_ren : Go.Shelf.Ren := ⟨fun | 176 => 9 | 249 => 10 | 288 => 11 | 283 => 12 | 284 => 13 | 285 => 14 | 286 => 15 | 129 => 17 | 317 => 16 | 318 => 18 | 319 => 19 | 320 => 20 | 337 => 21 | 338 => 22 | n => n, fun | 37 => 22 | 2 => 2 | 3 => 3 | 53 => 30 | 4 => 4 | 9 => 9 | 171 => 35 | 0 => 0 | 173 => 38 | 212 => 42 | 51 => 43 | 5 => 5 | 20 => 20 | 213 => 44 | 46 => 46 | 232 => 49 | 233 => 50 | n => n, fun | 17 => 0 | 18 => 1 | 19 => 2 | n => n⟩
theorem Ybad.laysM176 : Go.Proofs.LaysM.n176 Ybad.prog Ybad.laysM176_ren := {
  mixed := by kernel_rfl
  f129 := Ybad.func17.trans (congrArg some (by kernel_rfl))
  f176 := Ybad.func9.trans (congrArg some (by kernel_rfl))
  f249 := Ybad.func10.trans (congrArg some (by kernel_rfl))
  f283 := Ybad.func12.trans (congrArg some (by kernel_rfl))
  f284 := Ybad.func13.trans (congrArg some (by kernel_rfl))
  f285 := Ybad.func14.trans (congrArg some (by kernel_rfl))
  f286 := Ybad.func15.trans (congrArg some (by kernel_rfl))
  f288 := Ybad.func11.trans (congrArg some (by kernel_rfl))
  f317 := Ybad.func16.trans (congrArg some (by kernel_rfl))
  f318 := Ybad.func18.trans (congrArg some (by kernel_rfl))
  f319 := Ybad.func19.trans (congrArg some (by kernel_rfl))
  f320 := Ybad.func20.trans (congrArg some (by kernel_rfl))
  f337 := Ybad.func21.trans (congrArg some (by kernel_rfl))
  f338 := Ybad.func22.trans (congrArg some (by kernel_rfl))
  t0 := Ybad.underlying0
  a0 := Ybad.isAgg0
  z0 := Ybad.sizeOf0
  v0 := Ybad.zeroValue0
  t2 := Ybad.underlying2
  a2 := Ybad.isAgg2
  z2 := Ybad.sizeOf2
  v2 := Ybad.zeroValue2
  t3 := Ybad.underlying3
  a3 := Ybad.isAgg3
  z3 := Ybad.sizeOf3
  v3 := Ybad.zeroValue3
  t4 := Ybad.underlying4
  a4 := Ybad.isAgg4
  z4 := Ybad.sizeOf4
  v4 := Ybad.zeroValue4
  t5 := Ybad.underlying5
  a5 := Ybad.isAgg5
  z5 := Ybad.sizeOf5
  v5 := Ybad.zeroValue5
  t9 := Ybad.underlying9
  a9 := Ybad.isAgg9
  z9 := Ybad.sizeOf9
  v9 := Ybad.zeroValue9
  t20 := Ybad.underlying20
  a20 := Ybad.isAgg20
  z20 := Ybad.sizeOf20
  v20 := Ybad.zeroValue20
  t37 := Ybad.underlying22
  a37 := Ybad.isAgg22
  z37 := Ybad.sizeOf22
  v37 := Ybad.zeroValue22
  t46 := Ybad.underlying46
  a46 := Ybad.isAgg46
  z46 := Ybad.sizeOf46
  v46 := Ybad.zeroValue46
  t51 := Ybad.underlying43
  a51 := Ybad.isAgg43
  z51 := Ybad.sizeOf43
  v51 := Ybad.zeroValue43
  t53 := Ybad.underlying30
  a53 := Ybad.isAgg30
  z53 := Ybad.sizeOf30
  v53 := Ybad.zeroValue30
  t171 := Ybad.underlying35
  a171 := Ybad.isAgg35
  z171 := Ybad.sizeOf35
  v171 := Ybad.zeroValue35
  t173 := Ybad.underlying38
  a173 := Ybad.isAgg38
  z173 := Ybad.sizeOf38
  v173 := Ybad.zeroValue38
  t212 := Ybad.underlying42
  a212 := Ybad.isAgg42
  z212 := Ybad.sizeOf42
  v212 := Ybad.zeroValue42
  t213 := Ybad.underlying44
  a213 := Ybad.isAgg44
  z213 := Ybad.sizeOf44
  t232 := Ybad.underlying49
  a232 := Ybad.isAgg49
  z232 := Ybad.sizeOf49
  v232 := Ybad.zeroValue49
  t233 := Ybad.underlying50
  a233 := Ybad.isAgg50
  z233 := Ybad.sizeOf50
  v233 := Ybad.zeroValue50
  g17 := by kernel_rfl
  g18 := by kernel_rfl
  g19 := by kernel_rfl
  i0 := by kernel_rfl
  i2 := by kernel_rfl
  i3 := by kernel_rfl
  i4 := by kernel_rfl
  i5 := by kernel_rfl
  i9 := by kernel_rfl
  i20 := by kernel_rfl
  i37 := by kernel_rfl
  i46 := by kernel_rfl
  i51 := by kernel_rfl
  i53 := by kernel_rfl
  i171 := by kernel_rfl
  i173 := by kernel_rfl
  i212 := by kernel_rfl
  i232 := by kernel_rfl
  i233 := by kernel_rfl
  m17 := by kernel_rfl
  m18 := by kernel_rfl
  m19 := by kernel_rfl }
/-- the table's name, as the given row's own cell has it -/
def tabName : String := Rows.lawS0453AExactRow.named.headD default

open Go.RowKit Go.Sort Go.Lib in
/-- strconv.AppendInt: : AT BASE 10: WHAT COMES BACK OWNS dst's CELLS AND, BEHIND THEM, i's DECIMAL NUMERAL ('Lib.itoa i': at most 20 bytes), for every int64. Below the call's own blocks nothing has turned. (LAID: no walk: one application.) -/
theorem Ybad.strconv_AppendInt_10 (B n : Nat) (i : Int) (h0 : -9223372036854775808 ≤ i) (h1 : i ≤ 9223372036854775807) (sv : Value) (xs : List Value) (w : World) (hown : w.ownsRow B 5 1 sv n xs) (hBw : B ≤ w.heap.size) (hlim : n + 21 ≤ 140737488355328) (htab : Lib.TabBelow Ybad.prog B w tabName .u64 Lib.pow10Tab) :
    Calls Ybad.prog 9 #[sv, .int .i64 i, .int .i64 10] w fun e w' => ∃ v', e = .returned v' ∧ w'.ownsRow B 5 1 v' (n + (Lib.itoa i).length) (xs ++ Lib.byteCells (Lib.itoa i)) ∧ Below B w w' ∧ Lib.OthersKept 5 none w w' := Any.strconv_AppendInt_10 Ybad.laysM176 B n i h0 h1 sv xs w hown hBw hlim htab
def Ybad.laysnb115_ren : Go.Shelf.Ren := ⟨fun | 115 => 7 | n => n, fun | 37 => 22 | 4 => 4 | 9 => 9 | 5 => 5 | n => n, fun | n => n⟩
theorem Ybad.laysnb115 : Go.Proofs.Lays.nb115 Ybad.prog Ybad.laysnb115_ren := {
  mixed := by kernel_rfl
  f115 := Ybad.func7.trans (congrArg some (by kernel_rfl))
  t4 := Ybad.underlying4
  a4 := Ybad.isAgg4
  z4 := Ybad.sizeOf4
  v4 := Ybad.zeroValue4
  t9 := Ybad.underlying9
  a9 := Ybad.isAgg9
  z9 := Ybad.sizeOf9
  v9 := Ybad.zeroValue9
  t37 := Ybad.underlying22
  a37 := Ybad.isAgg22
  z37 := Ybad.sizeOf22
  v37 := Ybad.zeroValue22
  t5 := Ybad.underlying5
  a5 := Ybad.isAgg5
  z5 := Ybad.sizeOf5
  v5 := Ybad.zeroValue5 }
/-- bytes.Equal: WHOLE. (LAID: no walk: one application.) -/
theorem Ybad.bytes_Equal_all (p1 p2 : Option Addr) (n c m d : Nat) (xs ys : List Int) (w : World) (hx : xs.length = n) (hy : ys.length = m) (h1 : Lib.BytesIn w p1 n xs) (h2 : Lib.BytesIn w p2 m ys) :
    Calls Ybad.prog 7 #[.slice p1 n c, .slice p2 m d] w fun e w' => e = .returned (.bool (Lib.bytesOf xs == Lib.bytesOf ys)) ∧ w' = w := Any.bytes_Equal_all Ybad.laysnb115 p1 p2 n c m d xs ys w hx hy h1 h2
end Go.Proofs.YbulkiiyDoor
