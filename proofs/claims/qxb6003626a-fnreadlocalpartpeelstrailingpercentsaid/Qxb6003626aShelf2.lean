/-
  DERIVED: THE SHELF's CONTRACTS AT THIS DUMP, IN PLAIN WORDS (tools/lay-plain.mjs out of 'Qxb6003626aShelf2.lean', which tools/lay-shelf.mjs wrote): THE SAME DECLARATIONS UNDER THE SAME NAMES: 'import', 'namespace', 'open', 'def', 'theorem' AND NOTHING ELSE: no command of the shelf's: FOR A HAND-IN. Each laying: the table of numbers ('.._ren') and one theorem, a field a fact of the dump's own or the kernel's comparison; each contract: ONE APPLICATION.
-/
import Derived.Shelf.Strings.Prefix
import Derived.Shelf.Strings.IndexAny
import Derived.Shelf.Strings.AsciiSet
import Derived.Shelf.Strings.IndexAnyAll
import Derived.Test.Qxb6003626aProg
namespace Go.Proofs
open Go.Shelf
def Try.lays102_ren : Go.Shelf.Ren := ⟨fun | 102 => 34 | 209 => 40 | 207 => 45 | n => n, fun | 9 => 9 | 4 => 4 | 3 => 3 | n => n, fun | n => n⟩
theorem Try.lays102 : Go.Proofs.Lays.n102 Try.prog Try.lays102_ren := {
  mixed := by kernel_rfl
  f102 := Try.func34.trans (congrArg some (by kernel_rfl))
  f207 := Try.func45.trans (congrArg some (by kernel_rfl))
  f209 := Try.func40.trans (congrArg some (by kernel_rfl))
  t3 := Try.underlying3
  a3 := Try.isAgg3
  z3 := Try.sizeOf3
  v3 := Try.zeroValue3
  t4 := Try.underlying4
  a4 := Try.isAgg4
  z4 := Try.sizeOf4
  v4 := Try.zeroValue4
  t9 := Try.underlying9
  a9 := Try.isAgg9
  z9 := Try.sizeOf9
  v9 := Try.zeroValue9 }
open Go.RowKit Go.Lib in
theorem Try.strings_TrimSuffix (s p : ByteArray) (w : World) (hs : s.size ≤ 9223372036854775807) :
    Calls Try.prog 34 #[.string s, .string p] w fun e w' => e = .returned (.string ⟨(Lib.trimSuffix s.data.toList p.data.toList).toArray⟩) ∧ w' = w := Any.strings_TrimSuffix Try.lays102 s p w hs
def Try.lays150_ren : Go.Shelf.Ren := ⟨fun | 150 => 33 | 153 => 39 | 152 => 41 | 226 => 42 | 227 => 43 | 228 => 44 | 137 => 20 | 119 => 46 | 224 => 47 | 225 => 48 | 217 => 29 | 266 => 35 | n => n, fun | 9 => 9 | 4 => 4 | 3 => 3 | 5 => 5 | 21 => 21 | 117 => 60 | 116 => 59 | 0 => 0 | 46 => 64 | 124 => 65 | n => n, fun | n => n⟩
theorem Try.lays150 : Go.Proofs.Lays.n150 Try.prog Try.lays150_ren := {
  mixed := by kernel_rfl
  f119 := Try.func46.trans (congrArg some (by kernel_rfl))
  f137 := Try.func20.trans (congrArg some (by kernel_rfl))
  f150 := Try.func33.trans (congrArg some (by kernel_rfl))
  f152 := Try.func41.trans (congrArg some (by kernel_rfl))
  f153 := Try.func39.trans (congrArg some (by kernel_rfl))
  f217 := Try.func29.trans (congrArg some (by kernel_rfl))
  f224 := Try.func47.trans (congrArg some (by kernel_rfl))
  f225 := Try.func48.trans (congrArg some (by kernel_rfl))
  f226 := Try.func42.trans (congrArg some (by kernel_rfl))
  f227 := Try.func43.trans (congrArg some (by kernel_rfl))
  f228 := Try.func44.trans (congrArg some (by kernel_rfl))
  f266 := Try.func35.trans (congrArg some (by kernel_rfl))
  t0 := Try.underlying0
  a0 := Try.isAgg0
  z0 := Try.sizeOf0
  v0 := Try.zeroValue0
  t3 := Try.underlying3
  a3 := Try.isAgg3
  z3 := Try.sizeOf3
  v3 := Try.zeroValue3
  t4 := Try.underlying4
  a4 := Try.isAgg4
  z4 := Try.sizeOf4
  v4 := Try.zeroValue4
  t5 := Try.underlying5
  a5 := Try.isAgg5
  z5 := Try.sizeOf5
  v5 := Try.zeroValue5
  t9 := Try.underlying9
  a9 := Try.isAgg9
  z9 := Try.sizeOf9
  v9 := Try.zeroValue9
  t21 := Try.underlying21
  a21 := Try.isAgg21
  z21 := Try.sizeOf21
  v21 := Try.zeroValue21
  t46 := Try.underlying64
  a46 := Try.isAgg64
  z46 := Try.sizeOf64
  v46 := Try.zeroValue64
  t116 := Try.underlying59
  a116 := Try.isAgg59
  z116 := Try.sizeOf59
  t117 := Try.underlying60
  a117 := Try.isAgg60
  z117 := Try.sizeOf60
  v117 := Try.zeroValue60
  t124 := Try.underlying65
  a124 := Try.isAgg65
  z124 := Try.sizeOf65
  v124 := Try.zeroValue65 }
open Go.RowKit Go.Lib in
theorem Try.strings_ContainsAny_laid (s chars : ByteArray) (w : World) (hs : s.size < 4294967281) (hcs : chars.size < 4294967281) (has : ∀ (j : Nat) b, s.data.toList[j]? = some b → b.toNat < 128) (hac : ∀ (j : Nat) b, chars.data.toList[j]? = some b → b.toNat < 128) :
    Calls Try.prog 33 #[.string s, .string chars] w fun e w' => e = .returned (.bool (Lib.containsAny s.data.toList chars.data.toList)) ∧ Below w.heap.size w w' := Any.strings_ContainsAny_laid Try.lays150 (by kernel_rfl) s chars w hs hcs has hac
end Go.Proofs
