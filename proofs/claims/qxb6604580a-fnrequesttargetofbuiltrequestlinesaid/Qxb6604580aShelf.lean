/-
  DERIVED: THE SHELF's CONTRACTS AT THIS DUMP, IN PLAIN WORDS (tools/lay-plain.mjs out of 'Qxb6604580aShelf.lean', which tools/lay-shelf.mjs wrote): THE SAME DECLARATIONS UNDER THE SAME NAMES: 'import', 'namespace', 'open', 'def', 'theorem' AND NOTHING ELSE: no command of the shelf's: FOR A HAND-IN. Each laying: the table of numbers ('.._ren') and one theorem, a field a fact of the dump's own or the kernel's comparison; each contract: ONE APPLICATION.
-/
import Derived.Shelf.Bytes.SlIndexSmall
import Derived.Shelf.Bytes.Small
import Derived.Shelf.Bytes.IndexByte
import Derived.Test.Qxb6604580aProg
namespace Go.Proofs
open Go.Shelf
def Try.lays185_ren : Go.Shelf.Ren := ⟨fun | 185 => 12 | 187 => 10 | 115 => 16 | 253 => 17 | 224 => 18 | 254 => 19 | 255 => 14 | 291 => 20 | n => n, fun | 37 => 22 | 3 => 3 | 4 => 4 | 0 => 0 | 5 => 5 | 46 => 34 | 9 => 9 | 146 => 36 | 51 => 35 | n => n, fun | 1 => 0 | n => n⟩
theorem Try.lays185 : Go.Proofs.Lays.n185 Try.prog Try.lays185_ren := {
  mixed := by kernel_rfl
  f115 := Try.func16.trans (congrArg some (by kernel_rfl))
  f185 := Try.func12.trans (congrArg some (by kernel_rfl))
  f187 := Try.func10.trans (congrArg some (by kernel_rfl))
  f224 := Try.func18.trans (congrArg some (by kernel_rfl))
  f253 := Try.func17.trans (congrArg some (by kernel_rfl))
  f254 := Try.func19.trans (congrArg some (by kernel_rfl))
  f255 := Try.func14.trans (congrArg some (by kernel_rfl))
  f291 := Try.func20.trans (congrArg some (by kernel_rfl))
  t0 := Try.underlying0
  a0 := Try.isAgg0
  z0 := Try.sizeOf0
  v0 := Try.zeroValue0
  t3 := Try.underlying3
  a3 := Try.isAgg3
  z3 := Try.sizeOf3
  v3 := Try.zeroValue3
  t4 := Try.underlying4
  a4 := Try.isAgg4
  z4 := Try.sizeOf4
  v4 := Try.zeroValue4
  t5 := Try.underlying5
  a5 := Try.isAgg5
  z5 := Try.sizeOf5
  v5 := Try.zeroValue5
  t9 := Try.underlying9
  a9 := Try.isAgg9
  z9 := Try.sizeOf9
  v9 := Try.zeroValue9
  t37 := Try.underlying22
  a37 := Try.isAgg22
  z37 := Try.sizeOf22
  v37 := Try.zeroValue22
  t46 := Try.underlying34
  a46 := Try.isAgg34
  z46 := Try.sizeOf34
  v46 := Try.zeroValue34
  t51 := Try.underlying35
  a51 := Try.isAgg35
  z51 := Try.sizeOf35
  v51 := Try.zeroValue35
  t146 := Try.underlying36
  a146 := Try.isAgg36
  z146 := Try.sizeOf36
  v146 := Try.zeroValue36
  g1 := by kernel_rfl }
open Go.RowKit Go.Lib in
theorem Try.bytes_Index_one (b o n c b2 o2 d : Nat) (xs : List Int) (cv : Int) (w : World) (hx : xs.length = n) (hc : ∀ i, i < n → w.cell? ⟨b, o + i, none⟩ = some (.int .u8 (xs.getD i 0))) (hc2 : w.cell? ⟨b2, o2, none⟩ = some (.int .u8 cv)) :
    Calls Try.prog 12 #[.slice (some ⟨b, o, none⟩) n c, .slice (some ⟨b2, o2, none⟩) 1 d] w fun e w' => e = .returned (.int .i64 (Lib.indexByte (Lib.bytesOf xs) cv.toNat.toUInt8)) ∧ w' = w := Any.bytes_Index_one Try.lays185 b o n c b2 o2 d xs cv w hx hc hc2
def Try.lays187_ren : Go.Shelf.Ren := ⟨fun | 187 => 10 | 255 => 14 | n => n, fun | 37 => 22 | 5 => 5 | 3 => 3 | n => n, fun | n => n⟩
theorem Try.lays187 : Go.Proofs.Lays.n187 Try.prog Try.lays187_ren := {
  mixed := by kernel_rfl
  f187 := Try.func10.trans (congrArg some (by kernel_rfl))
  f255 := Try.func14.trans (congrArg some (by kernel_rfl))
  t3 := Try.underlying3
  a3 := Try.isAgg3
  z3 := Try.sizeOf3
  v3 := Try.zeroValue3
  t5 := Try.underlying5
  a5 := Try.isAgg5
  z5 := Try.sizeOf5
  v5 := Try.zeroValue5
  t37 := Try.underlying22
  a37 := Try.isAgg22
  z37 := Try.sizeOf22
  v37 := Try.zeroValue22 }
def Try.laysnb140_ren : Go.Shelf.Ren := ⟨fun | 140 => 9 | 117 => 13 | 115 => 16 | n => n, fun | 37 => 22 | 4 => 4 | 3 => 3 | 9 => 9 | 5 => 5 | n => n, fun | n => n⟩
theorem Try.laysnb140 : Go.Proofs.Lays.nb140 Try.prog Try.laysnb140_ren := {
  mixed := by kernel_rfl
  f115 := Try.func16.trans (congrArg some (by kernel_rfl))
  f117 := Try.func13.trans (congrArg some (by kernel_rfl))
  f140 := Try.func9.trans (congrArg some (by kernel_rfl))
  t3 := Try.underlying3
  a3 := Try.isAgg3
  z3 := Try.sizeOf3
  v3 := Try.zeroValue3
  t4 := Try.underlying4
  a4 := Try.isAgg4
  z4 := Try.sizeOf4
  v4 := Try.zeroValue4
  t9 := Try.underlying9
  a9 := Try.isAgg9
  z9 := Try.sizeOf9
  v9 := Try.zeroValue9
  t37 := Try.underlying22
  a37 := Try.isAgg22
  z37 := Try.sizeOf22
  v37 := Try.zeroValue22
  t5 := Try.underlying5
  a5 := Try.isAgg5
  z5 := Try.sizeOf5
  v5 := Try.zeroValue5 }
theorem Try.bytes_TrimSuffix (b1 o1 n c b2 o2 m d : Nat) (xs ys : List Int) (w : World) (hx : xs.length = n) (hy : ys.length = m) (hnc : n ≤ c) (hbig : n ≤ 9223372036854775807) (hc1 : ∀ i, i < n → w.cell? ⟨b1, o1 + i, none⟩ = some (.int .u8 (xs.getD i 0))) (hc2 : ∀ i, i < m → w.cell? ⟨b2, o2 + i, none⟩ = some (.int .u8 (ys.getD i 0))) :
    Calls Try.prog 9 #[.slice (some ⟨b1, o1, none⟩) n c, .slice (some ⟨b2, o2, none⟩) m d] w fun e w' => e = .returned (Lib.bytesTrimSuffix b1 o1 n c xs ys) ∧ w' = w := Any.bytes_TrimSuffix Try.laysnb140 b1 o1 n c b2 o2 m d xs ys w hx hy hnc hbig hc1 hc2
theorem Try.bytes_IndexByte (b o n c : Nat) (xs : List Int) (cv : Int) (w : World) (hx : xs.length = n) (hc : ∀ i, i < n → w.cell? ⟨b, o + i, none⟩ = some (.int .u8 (xs.getD i 0))) :
    Calls Try.prog 10 #[.slice (some ⟨b, o, none⟩) n c, .int .u8 cv] w fun e w' => e = .returned (.int .i64 (Lib.indexByte (Lib.bytesOf xs) cv.toNat.toUInt8)) ∧ w' = w := Any.bytes_IndexByte Try.lays187 b o n c xs cv w hx hc
end Go.Proofs
