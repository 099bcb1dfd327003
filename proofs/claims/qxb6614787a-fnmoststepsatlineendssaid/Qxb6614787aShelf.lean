/-
  DERIVED: THE SHELF's CONTRACTS AT THIS DUMP, IN PLAIN WORDS (tools/lay-plain.mjs out of 'TryShelf.lean', which tools/lay-shelf.mjs wrote): THE SAME DECLARATIONS UNDER THE SAME NAMES: 'import', 'namespace', 'open', 'def', 'theorem' AND NOTHING ELSE: no command of the shelf's: FOR A HAND-IN. Each laying: the table of numbers ('.._ren') and one theorem, a field a fact of the dump's own or the kernel's comparison; each contract: ONE APPLICATION.
-/
import Derived.Shelf.Strings.Count
import Derived.Test.Qxb6614787aProg
namespace Go.Proofs
open Go.Shelf
def Try.lays138_ren : Go.Shelf.Ren := ⟨fun | 138 => 9 | 195 => 10 | 218 => 11 | 143 => 12 | 219 => 13 | 217 => 14 | 225 => 15 | 224 => 16 | 267 => 17 | 266 => 18 | 314 => 19 | n => n, fun | 9 => 9 | 3 => 3 | 4 => 4 | 5 => 5 | 0 => 0 | 46 => 34 | 146 => 36 | 51 => 35 | n => n, fun | 1 => 0 | n => n⟩
theorem Try.lays138 : Go.Proofs.Lays.n138 Try.prog Try.lays138_ren := {
  mixed := by kernel_rfl
  f138 := Try.func9.trans (congrArg some (by kernel_rfl))
  f143 := Try.func12.trans (congrArg some (by kernel_rfl))
  f195 := Try.func10.trans (congrArg some (by kernel_rfl))
  f217 := Try.func14.trans (congrArg some (by kernel_rfl))
  f218 := Try.func11.trans (congrArg some (by kernel_rfl))
  f219 := Try.func13.trans (congrArg some (by kernel_rfl))
  f224 := Try.func16.trans (congrArg some (by kernel_rfl))
  f225 := Try.func15.trans (congrArg some (by kernel_rfl))
  f266 := Try.func18.trans (congrArg some (by kernel_rfl))
  f267 := Try.func17.trans (congrArg some (by kernel_rfl))
  f314 := Try.func19.trans (congrArg some (by kernel_rfl))
  t0 := Try.underlying0
  a0 := Try.isAgg0
  z0 := Try.sizeOf0
  v0 := Try.zeroValue0
  t3 := Try.underlying3
  a3 := Try.isAgg3
  z3 := Try.sizeOf3
  v3 := Try.zeroValue3
  t4 := Try.underlying4
  a4 := Try.isAgg4
  z4 := Try.sizeOf4
  v4 := Try.zeroValue4
  t5 := Try.underlying5
  a5 := Try.isAgg5
  z5 := Try.sizeOf5
  v5 := Try.zeroValue5
  t9 := Try.underlying9
  a9 := Try.isAgg9
  z9 := Try.sizeOf9
  v9 := Try.zeroValue9
  t46 := Try.underlying34
  a46 := Try.isAgg34
  z46 := Try.sizeOf34
  v46 := Try.zeroValue34
  t51 := Try.underlying35
  a51 := Try.isAgg35
  z51 := Try.sizeOf35
  v51 := Try.zeroValue35
  t146 := Try.underlying36
  a146 := Try.isAgg36
  z146 := Try.sizeOf36
  v146 := Try.zeroValue36
  g1 := by kernel_rfl }
open Go.RowKit Go.Lib in
/-- strings.Count AT A substr OF ONE BYTE ('hp'): "Count counts the number of non-overlapping instances of substr in s.": IT RETURNS 'Lib.countByte s (that byte)'; the world is as it was. ✋ NO CONTRACT HERE YET at an empty substr (utf8.RuneCountInString) or at a longer one (a loop over strings.Index). (LAID: no walk: one application.) -/
theorem Try.strings_Count_one (s : ByteArray) (c : UInt8) (w : World) :
    Calls Try.prog 9 #[.string s, .string ⟨#[c]⟩] w fun e w' => e = .returned (.int .i64 (Lib.countByte s.data.toList c)) ∧ w' = w := Any.strings_Count_one Try.lays138 s c w
end Go.Proofs
