/-
  DERIVED: THE SHELF's CONTRACTS AT THIS DUMP, IN PLAIN WORDS (tools/lay-plain.mjs out of 'YbafShelf.lean', which tools/lay-shelf.mjs wrote): THE SAME DECLARATIONS UNDER THE SAME NAMES: 'import', 'namespace', 'open', 'def', 'theorem' AND NOTHING ELSE: no command of the shelf's: FOR A HAND-IN. Each laying: the table of numbers ('.._ren') and one theorem, a field a fact of the dump's own or the kernel's comparison; each contract: ONE APPLICATION.
-/
import Derived.Shelf.Small.Strs
import Derived.Shelf.LaysM
import Derived.Shelf.Strconv.Clone
import Derived.Test.YbulkxmaFmtProg
namespace Go.Proofs
open Go.Shelf
def Ybaf.lays213_ren : Go.Shelf.Ren := ⟨fun | 213 => 27 | 265 => 30 | n => n, fun | 9 => 9 | 3 => 3 | n => n, fun | n => n⟩
theorem Ybaf.lays213 : Go.Proofs.Lays.n213 Ybaf.prog Ybaf.lays213_ren := {
  mixed := by kernel_rfl
  f213 := Ybaf.func27.trans (congrArg some (by kernel_rfl))
  f265 := Ybaf.func30.trans (congrArg some (by kernel_rfl))
  t3 := Ybaf.underlying3
  a3 := Ybaf.isAgg3
  z3 := Ybaf.sizeOf3
  v3 := Ybaf.zeroValue3
  t9 := Ybaf.underlying9
  a9 := Ybaf.isAgg9
  z9 := Ybaf.sizeOf9
  v9 := Ybaf.zeroValue9 }
open Go.RowKit in
/-- internal/bytealg.CompareString (what strings.Compare calls): IT RETURNS 'Lib.compareBytes a b'; the world is as it was. (LAID: no walk: one application.) -/
theorem Ybaf.bytealg_CompareString (a b : ByteArray) (w : World) :
    Calls Ybaf.prog 27 #[.string a, .string b] w fun e w' => e = .returned (.int .i64 (Lib.compareBytes a.data.toList b.data.toList)) ∧ w' = w := Any.bytealg_CompareString Ybaf.lays213 a b w
def Ybaf.lays106_ren : Go.Shelf.Ren := ⟨fun | 106 => 21 | 213 => 27 | 265 => 30 | n => n, fun | 9 => 9 | 3 => 3 | n => n, fun | n => n⟩
theorem Ybaf.lays106 : Go.Proofs.Lays.n106 Ybaf.prog Ybaf.lays106_ren := {
  mixed := by kernel_rfl
  f106 := Ybaf.func21.trans (congrArg some (by kernel_rfl))
  f213 := Ybaf.func27.trans (congrArg some (by kernel_rfl))
  f265 := Ybaf.func30.trans (congrArg some (by kernel_rfl))
  t3 := Ybaf.underlying3
  a3 := Ybaf.isAgg3
  z3 := Ybaf.sizeOf3
  v3 := Ybaf.zeroValue3
  t9 := Ybaf.underlying9
  a9 := Ybaf.isAgg9
  z9 := Ybaf.sizeOf9
  v9 := Ybaf.zeroValue9 }
open Go.RowKit in
/-- strings.Compare: "Compare returns an integer comparing two strings lexicographically. The result will be 0 if a == b, -1 if a < b, and +1 if a > b.": IT RETURNS 'Lib.compareBytes a b'; the world is as it was. (LAID: no walk: one application.) -/
theorem Ybaf.strings_Compare (a b : ByteArray) (w : World) :
    Calls Ybaf.prog 21 #[.string a, .string b] w fun e w' => e = .returned (.int .i64 (Lib.compareBytes a.data.toList b.data.toList)) ∧ w' = w := Any.strings_Compare Ybaf.lays106 a b w
def Ybaf.laysM316_ren : Go.Shelf.Ren := ⟨fun | 316 => 29 | n => n, fun | 9 => 9 | 3 => 3 | 4 => 4 | 37 => 67 | 0 => 0 | 127 => 97 | 5 => 5 | n => n, fun | n => n⟩
theorem Ybaf.laysM316 : Go.Proofs.LaysM.n316 Ybaf.prog Ybaf.laysM316_ren := {
  mixed := by kernel_rfl
  f316 := Ybaf.func29.trans (congrArg some (by kernel_rfl))
  t0 := Ybaf.underlying0
  a0 := Ybaf.isAgg0
  z0 := Ybaf.sizeOf0
  v0 := Ybaf.zeroValue0
  t3 := Ybaf.underlying3
  a3 := Ybaf.isAgg3
  z3 := Ybaf.sizeOf3
  v3 := Ybaf.zeroValue3
  t4 := Ybaf.underlying4
  a4 := Ybaf.isAgg4
  z4 := Ybaf.sizeOf4
  v4 := Ybaf.zeroValue4
  t9 := Ybaf.underlying9
  a9 := Ybaf.isAgg9
  z9 := Ybaf.sizeOf9
  v9 := Ybaf.zeroValue9
  t37 := Ybaf.underlying67
  a37 := Ybaf.isAgg67
  z37 := Ybaf.sizeOf67
  v37 := Ybaf.zeroValue67
  t127 := Ybaf.underlying97
  a127 := Ybaf.isAgg97
  z127 := Ybaf.sizeOf97
  v127 := Ybaf.zeroValue97
  t5 := Ybaf.underlying5
  a5 := Ybaf.isAgg5
  z5 := Ybaf.sizeOf5
  v5 := Ybaf.zeroValue5
  i0 := by kernel_rfl
  i3 := by kernel_rfl
  i4 := by kernel_rfl
  i5 := by kernel_rfl
  i9 := by kernel_rfl
  i37 := by kernel_rfl
  i127 := by kernel_rfl }
open Go.RowKit in
/-- internal/stringslite.Clone (what strings.Clone calls): "Clone returns a fresh copy of s.": THE SAME BYTES. Of what was there nothing has turned (a new row is laid, and frozen, where s is not empty). (LAID: no walk: one application.) -/
theorem Ybaf.stringslite_Clone (s : ByteArray) (w : World) (hlim : s.size ≤ 281474976710656) :
    Calls Ybaf.prog 29 #[.string s] w fun e w' => e = .returned (.string s) ∧ Below w.heap.size w w' := Any.stringslite_Clone Ybaf.laysM316 s w hlim
end Go.Proofs
