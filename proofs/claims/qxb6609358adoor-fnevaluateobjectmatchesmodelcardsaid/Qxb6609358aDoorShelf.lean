/-
  The shelf's contracts at this program, in plain words (lay-plain.mjs; the two of WriteByte and WriteString laid by hand: type 20, the empty interface, is named by their structure and by no body here).
-/
import Derived.Shelf.Strings.Builder1
import Derived.Shelf.Strings.Builder2
import Derived.Shelf.Small.Strs
import Derived.Shelf.Strings.BuilderF
import Derived.Shelf.Strings.BuilderK
import Derived.Shelf.Strings.Search1
import Derived.Shelf.Strings.Search2
import Derived.Shelf.Strings.Count
import Derived.Test.Qxb6609358aDoorProg
namespace Go.Proofs
open Go.Shelf
def Tryd.lays170_ren : Go.Shelf.Ren := ⟨fun | 170 => 58 | n => n, fun | 70 => 90 | 3 => 3 | 0 => 0 | 72 => 92 | 37 => 56 | 5 => 5 | n => n, fun | n => n⟩
theorem Tryd.lays170 : Go.Proofs.Lays.n170 Tryd.prog Tryd.lays170_ren := {
  mixed := by kernel_rfl
  f170 := Tryd.func58.trans (congrArg some (by kernel_rfl))
  t0 := Tryd.underlying0
  a0 := Tryd.isAgg0
  z0 := Tryd.sizeOf0
  v0 := Tryd.zeroValue0
  t3 := Tryd.underlying3
  a3 := Tryd.isAgg3
  z3 := Tryd.sizeOf3
  v3 := Tryd.zeroValue3
  t37 := Tryd.underlying56
  a37 := Tryd.isAgg56
  z37 := Tryd.sizeOf56
  v37 := Tryd.zeroValue56
  t70 := Tryd.underlying90
  a70 := Tryd.isAgg90
  z70 := Tryd.sizeOf90
  v70 := Tryd.zeroValue90
  t72 := Tryd.underlying92
  a72 := Tryd.isAgg92
  z72 := Tryd.sizeOf92
  v72 := Tryd.zeroValue92 }
def Tryd.lays169_ren : Go.Shelf.Ren := ⟨fun | 169 => 47 | n => n, fun | 70 => 90 | 9 => 9 | 0 => 0 | 72 => 92 | 37 => 56 | 127 => 129 | 3 => 3 | 5 => 5 | n => n, fun | n => n⟩
theorem Tryd.lays169 : Go.Proofs.Lays.n169 Tryd.prog Tryd.lays169_ren := {
  mixed := by kernel_rfl
  f169 := Tryd.func47.trans (congrArg some (by kernel_rfl))
  t0 := Tryd.underlying0
  a0 := Tryd.isAgg0
  z0 := Tryd.sizeOf0
  v0 := Tryd.zeroValue0
  t3 := Tryd.underlying3
  a3 := Tryd.isAgg3
  z3 := Tryd.sizeOf3
  v3 := Tryd.zeroValue3
  t9 := Tryd.underlying9
  a9 := Tryd.isAgg9
  z9 := Tryd.sizeOf9
  v9 := Tryd.zeroValue9
  t37 := Tryd.underlying56
  a37 := Tryd.isAgg56
  z37 := Tryd.sizeOf56
  v37 := Tryd.zeroValue56
  t70 := Tryd.underlying90
  a70 := Tryd.isAgg90
  z70 := Tryd.sizeOf90
  v70 := Tryd.zeroValue90
  t72 := Tryd.underlying92
  a72 := Tryd.isAgg92
  z72 := Tryd.sizeOf92
  v72 := Tryd.zeroValue92
  t127 := Tryd.underlying129
  a127 := Tryd.isAgg129
  z127 := Tryd.sizeOf129
  v127 := Tryd.zeroValue129 }
theorem Tryd.Builder_Extra_169 : Builder.Extra Tryd.prog Tryd.lays169_ren := {
  sizeBuilder := by kernel_rfl
  liesBuilder := by kernel_rfl
  t5 := Tryd.underlying5
  a5 := Tryd.isAgg5
  z5 := Tryd.sizeOf5
  v5 := Tryd.zeroValue5
  infoByte := by kernel_rfl
  cellsByte := by kernel_rfl
  sizeByte := by kernel_rfl
  neB5 := by decide }
def Tryd.lays165_ren : Go.Shelf.Ren := ⟨fun | 165 => 43 | 240 => 61 | 241 => 62 | 276 => 70 | 277 => 71 | n => n, fun | 70 => 90 | 3 => 3 | 0 => 0 | 4 => 4 | 9 => 9 | 20 => 20 | 72 => 92 | 37 => 56 | 164 => 65 | 5 => 5 | n => n, fun | n => n⟩
theorem Tryd.lays165 : Go.Proofs.Lays.n165 Tryd.prog Tryd.lays165_ren := {
  mixed := by kernel_rfl
  f165 := Tryd.func43.trans (congrArg some (by kernel_rfl))
  f240 := Tryd.func61.trans (congrArg some (by kernel_rfl))
  f241 := Tryd.func62.trans (congrArg some (by kernel_rfl))
  f276 := Tryd.func70.trans (congrArg some (by kernel_rfl))
  f277 := Tryd.func71.trans (congrArg some (by kernel_rfl))
  t0 := Tryd.underlying0
  a0 := Tryd.isAgg0
  z0 := Tryd.sizeOf0
  v0 := Tryd.zeroValue0
  t3 := Tryd.underlying3
  a3 := Tryd.isAgg3
  z3 := Tryd.sizeOf3
  v3 := Tryd.zeroValue3
  t4 := Tryd.underlying4
  a4 := Tryd.isAgg4
  z4 := Tryd.sizeOf4
  v4 := Tryd.zeroValue4
  t9 := Tryd.underlying9
  a9 := Tryd.isAgg9
  z9 := Tryd.sizeOf9
  v9 := Tryd.zeroValue9
  t20 := Tryd.underlying20
  a20 := Tryd.isAgg20
  z20 := Tryd.sizeOf20
  v20 := Tryd.zeroValue20
  t37 := Tryd.underlying56
  a37 := Tryd.isAgg56
  z37 := Tryd.sizeOf56
  v37 := Tryd.zeroValue56
  t70 := Tryd.underlying90
  a70 := Tryd.isAgg90
  z70 := Tryd.sizeOf90
  v70 := Tryd.zeroValue90
  t72 := Tryd.underlying92
  a72 := Tryd.isAgg92
  z72 := Tryd.sizeOf92
  v72 := Tryd.zeroValue92
  t164 := Tryd.underlying65
  a164 := Tryd.isAgg65
  z164 := Tryd.sizeOf65
  v164 := Tryd.zeroValue65 }
theorem Tryd.Builder_Extra_165 : Builder.Extra Tryd.prog Tryd.lays165_ren := {
  sizeBuilder := by kernel_rfl
  liesBuilder := by kernel_rfl
  t5 := Tryd.underlying5
  a5 := Tryd.isAgg5
  z5 := Tryd.sizeOf5
  v5 := Tryd.zeroValue5
  infoByte := by kernel_rfl
  cellsByte := by kernel_rfl
  sizeByte := by kernel_rfl
  neB5 := by decide }
open Go.RowKit in
theorem Tryd.Builder_Grow_fresh (B b n : Nat) (w : World) (hB : B ≤ b) (hbk : w.heap[b]? = some (.cells #[.pointer none, .slice none 0 0] 92 (0, 0))) (hBw : B ≤ w.heap.size) (hn : n ≤ 281474976710656) :
    Calls Tryd.prog 43 #[.pointer (some ⟨b, 0, none⟩), .int .i64 n] w fun e w' => e = .returned (.tuple #[]) ∧ (Lib.BuilderAt 92 5 B b (.pointer (some ⟨b, 0, none⟩)) [] w' ∧ Below B w w') := Any.Builder_Grow_fresh Tryd.lays165 Tryd.Builder_Extra_165 B b n w hB hbk hBw hn
def Tryd.lays137_ren : Go.Shelf.Ren := ⟨fun | 137 => 38 | 217 => 53 | 266 => 64 | n => n, fun | 9 => 9 | 5 => 5 | 3 => 3 | n => n, fun | n => n⟩
theorem Tryd.lays137 : Go.Proofs.Lays.n137 Tryd.prog Tryd.lays137_ren := {
  mixed := by kernel_rfl
  f137 := Tryd.func38.trans (congrArg some (by kernel_rfl))
  f217 := Tryd.func53.trans (congrArg some (by kernel_rfl))
  f266 := Tryd.func64.trans (congrArg some (by kernel_rfl))
  t3 := Tryd.underlying3
  a3 := Tryd.isAgg3
  z3 := Tryd.sizeOf3
  v3 := Tryd.zeroValue3
  t5 := Tryd.underlying5
  a5 := Tryd.isAgg5
  z5 := Tryd.sizeOf5
  v5 := Tryd.zeroValue5
  t9 := Tryd.underlying9
  a9 := Tryd.isAgg9
  z9 := Tryd.sizeOf9
  v9 := Tryd.zeroValue9 }
open Go.RowKit in
theorem Tryd.strings_IndexByte (s : ByteArray) (c : Int) (w : World) :
    Calls Tryd.prog 38 #[.string s, .int .u8 c] w fun e w' => e = .returned (.int .i64 (Lib.indexByte s.data.toList c.toNat.toUInt8)) ∧ w' = w := Any.strings_IndexByte Tryd.lays137 s c w
open Go.RowKit in
theorem Tryd.Builder_Len_f (B b : Nat) (bs : List Value) (w : World) (h : Lib.IsBuilderF 92 5 B b bs w) :
    Calls Tryd.prog 58 #[.pointer (some ⟨b, 0, none⟩)] w fun e w' => e = .returned (.int .i64 bs.length) ∧ w' = w := Any.Builder_Len_f Tryd.lays170 B b bs w h
open Go.RowKit in
theorem Tryd.Builder_String_any_k (B b : Nat) (l : List UInt8) (w : World) (h : Lib.IsBuilderF 92 5 B b (Lib.byteCells l) w) (hBw : B ≤ w.heap.size) :
    Calls Tryd.prog 47 #[.pointer (some ⟨b, 0, none⟩)] w fun e w' => e = .returned (.string ⟨l.toArray⟩) ∧ (Lib.IsBuilderF 92 5 B b (Lib.byteCells l) w' ∧ Below B w w' ∧ Lib.OthersKept 5 (some b) w w') := Any.Builder_String_any_k Tryd.lays169 Tryd.Builder_Extra_169 B b l w h hBw
def Tryd.lays144_ren : Go.Shelf.Ren := ⟨fun | 144 => 54 | 143 => 65 | 219 => 72 | 217 => 53 | 225 => 74 | 224 => 75 | 267 => 76 | 266 => 64 | 314 => 78 | n => n, fun | 9 => 9 | 4 => 4 | 3 => 3 | 5 => 5 | 46 => 24 | 146 => 139 | 51 => 138 | n => n, fun | 1 => 4 | n => n⟩
theorem Tryd.lays144 : Go.Proofs.Lays.n144 Tryd.prog Tryd.lays144_ren := {
  mixed := by kernel_rfl
  f143 := Tryd.func65.trans (congrArg some (by kernel_rfl))
  f144 := Tryd.func54.trans (congrArg some (by kernel_rfl))
  f217 := Tryd.func53.trans (congrArg some (by kernel_rfl))
  f219 := Tryd.func72.trans (congrArg some (by kernel_rfl))
  f224 := Tryd.func75.trans (congrArg some (by kernel_rfl))
  f225 := Tryd.func74.trans (congrArg some (by kernel_rfl))
  f266 := Tryd.func64.trans (congrArg some (by kernel_rfl))
  f267 := Tryd.func76.trans (congrArg some (by kernel_rfl))
  f314 := Tryd.func78.trans (congrArg some (by kernel_rfl))
  t3 := Tryd.underlying3
  a3 := Tryd.isAgg3
  z3 := Tryd.sizeOf3
  v3 := Tryd.zeroValue3
  t4 := Tryd.underlying4
  a4 := Tryd.isAgg4
  z4 := Tryd.sizeOf4
  v4 := Tryd.zeroValue4
  t5 := Tryd.underlying5
  a5 := Tryd.isAgg5
  z5 := Tryd.sizeOf5
  v5 := Tryd.zeroValue5
  t9 := Tryd.underlying9
  a9 := Tryd.isAgg9
  z9 := Tryd.sizeOf9
  v9 := Tryd.zeroValue9
  t46 := Tryd.underlying24
  a46 := Tryd.isAgg24
  z46 := Tryd.sizeOf24
  v46 := Tryd.zeroValue24
  t51 := Tryd.underlying138
  a51 := Tryd.isAgg138
  z51 := Tryd.sizeOf138
  v51 := Tryd.zeroValue138
  t146 := Tryd.underlying139
  a146 := Tryd.isAgg139
  z146 := Tryd.sizeOf139
  v146 := Tryd.zeroValue139
  g1 := by kernel_rfl }
open Go.RowKit Go.Lib in
theorem Tryd.strings_Contains (s sub : ByteArray) (m : Int) (w : World) (hs : s.size < 4294967281) (hm : w.cell? ⟨4, 0, none⟩ = some (.int .i64 m)) :
    Calls Tryd.prog 54 #[.string s, .string sub] w fun e w' => e = .returned (.bool (Lib.contains s.data.toList sub.data.toList)) ∧ w' = w := Any.strings_Contains Tryd.lays144 s sub m w hs hm
def Tryd.lays138_ren : Go.Shelf.Ren := ⟨fun | 138 => 55 | 195 => 66 | 218 => 67 | 143 => 65 | 219 => 72 | 217 => 53 | 225 => 74 | 224 => 75 | 267 => 76 | 266 => 64 | 314 => 78 | n => n, fun | 9 => 9 | 3 => 3 | 4 => 4 | 5 => 5 | 0 => 0 | 46 => 24 | 146 => 139 | 51 => 138 | n => n, fun | 1 => 4 | n => n⟩
theorem Tryd.lays138 : Go.Proofs.Lays.n138 Tryd.prog Tryd.lays138_ren := {
  mixed := by kernel_rfl
  f138 := Tryd.func55.trans (congrArg some (by kernel_rfl))
  f143 := Tryd.func65.trans (congrArg some (by kernel_rfl))
  f195 := Tryd.func66.trans (congrArg some (by kernel_rfl))
  f217 := Tryd.func53.trans (congrArg some (by kernel_rfl))
  f218 := Tryd.func67.trans (congrArg some (by kernel_rfl))
  f219 := Tryd.func72.trans (congrArg some (by kernel_rfl))
  f224 := Tryd.func75.trans (congrArg some (by kernel_rfl))
  f225 := Tryd.func74.trans (congrArg some (by kernel_rfl))
  f266 := Tryd.func64.trans (congrArg some (by kernel_rfl))
  f267 := Tryd.func76.trans (congrArg some (by kernel_rfl))
  f314 := Tryd.func78.trans (congrArg some (by kernel_rfl))
  t0 := Tryd.underlying0
  a0 := Tryd.isAgg0
  z0 := Tryd.sizeOf0
  v0 := Tryd.zeroValue0
  t3 := Tryd.underlying3
  a3 := Tryd.isAgg3
  z3 := Tryd.sizeOf3
  v3 := Tryd.zeroValue3
  t4 := Tryd.underlying4
  a4 := Tryd.isAgg4
  z4 := Tryd.sizeOf4
  v4 := Tryd.zeroValue4
  t5 := Tryd.underlying5
  a5 := Tryd.isAgg5
  z5 := Tryd.sizeOf5
  v5 := Tryd.zeroValue5
  t9 := Tryd.underlying9
  a9 := Tryd.isAgg9
  z9 := Tryd.sizeOf9
  v9 := Tryd.zeroValue9
  t46 := Tryd.underlying24
  a46 := Tryd.isAgg24
  z46 := Tryd.sizeOf24
  v46 := Tryd.zeroValue24
  t51 := Tryd.underlying138
  a51 := Tryd.isAgg138
  z51 := Tryd.sizeOf138
  v51 := Tryd.zeroValue138
  t146 := Tryd.underlying139
  a146 := Tryd.isAgg139
  z146 := Tryd.sizeOf139
  v146 := Tryd.zeroValue139
  g1 := by kernel_rfl }
open Go.RowKit Go.Lib in
theorem Tryd.strings_Count_one (s : ByteArray) (c : UInt8) (w : World) :
    Calls Tryd.prog 55 #[.string s, .string ⟨#[c]⟩] w fun e w' => e = .returned (.int .i64 (Lib.countByte s.data.toList c)) ∧ w' = w := Any.strings_Count_one Tryd.lays138 s c w
def Tryd.lays167_ren : Go.Shelf.Ren := ⟨fun | 167 => 46 | 240 => 61 | 276 => 70 | n => n, fun | 0 => 0 | 3 => 3 | 4 => 4 | 5 => 5 | 9 => 9 | 20 => 20 | 37 => 56 | 70 => 90 | 72 => 92 | 75 => 33 | 80 => 97 | 164 => 65 | n => n, fun | n => n⟩
theorem Tryd.lays167 : Go.Proofs.Lays.n167 Tryd.prog Tryd.lays167_ren := {
  mixed := by kernel_rfl
  f167 := Tryd.func46.trans (congrArg some (by kernel_rfl))
  f240 := Tryd.func61.trans (congrArg some (by kernel_rfl))
  f276 := Tryd.func70.trans (congrArg some (by kernel_rfl))
  t0 := Tryd.underlying0
  a0 := Tryd.isAgg0
  z0 := Tryd.sizeOf0
  v0 := Tryd.zeroValue0
  t4 := Tryd.underlying4
  a4 := Tryd.isAgg4
  z4 := Tryd.sizeOf4
  v4 := Tryd.zeroValue4
  t5 := Tryd.underlying5
  a5 := Tryd.isAgg5
  z5 := Tryd.sizeOf5
  v5 := Tryd.zeroValue5
  t9 := Tryd.underlying9
  a9 := Tryd.isAgg9
  z9 := Tryd.sizeOf9
  v9 := Tryd.zeroValue9
  t20 := Tryd.underlying20
  a20 := Tryd.isAgg20
  z20 := Tryd.sizeOf20
  v20 := Tryd.zeroValue20
  t37 := Tryd.underlying56
  a37 := Tryd.isAgg56
  z37 := Tryd.sizeOf56
  v37 := Tryd.zeroValue56
  t70 := Tryd.underlying90
  a70 := Tryd.isAgg90
  z70 := Tryd.sizeOf90
  v70 := Tryd.zeroValue90
  t72 := Tryd.underlying92
  a72 := Tryd.isAgg92
  z72 := Tryd.sizeOf92
  v72 := Tryd.zeroValue92
  t75 := Tryd.underlying33
  a75 := Tryd.isAgg33
  z75 := Tryd.sizeOf33
  v75 := Tryd.zeroValue33
  t164 := Tryd.underlying65
  a164 := Tryd.isAgg65
  z164 := Tryd.sizeOf65
  v164 := Tryd.zeroValue65 }
theorem Tryd.Builder_Extra_167 : Builder.Extra Tryd.prog Tryd.lays167_ren := {
  sizeBuilder := by kernel_rfl
  liesBuilder := by kernel_rfl
  t5 := Tryd.underlying5
  a5 := Tryd.isAgg5
  z5 := Tryd.sizeOf5
  v5 := Tryd.zeroValue5
  infoByte := by kernel_rfl
  cellsByte := by kernel_rfl
  sizeByte := by kernel_rfl
  neB5 := by decide }
open Go.RowKit in
theorem Tryd.Builder_WriteByte_k (B b : Nat) (bs : List Value) (c : Int) (w : World) (h : Lib.IsBuilderF 92 5 B b bs w) (hlen : bs.length + 1 ≤ 140737488355328) (hBw : B ≤ w.heap.size) :
    Calls Tryd.prog 46 #[.pointer (some ⟨b, 0, none⟩), .int .u8 c] w fun e w' => e = .returned .nilIface ∧ (Lib.BuilderAtF 92 5 B b (.pointer (some ⟨b, 0, none⟩)) (bs ++ [.int .u8 c]) w' ∧ Below B w w' ∧ Lib.OthersKept 5 (some b) w w') := Any.Builder_WriteByte_k Tryd.lays167 Tryd.Builder_Extra_167 B b bs c w h hlen hBw
def Tryd.lays166_ren : Go.Shelf.Ren := ⟨fun | 166 => 44 | 240 => 61 | 276 => 70 | n => n, fun | 0 => 0 | 3 => 3 | 4 => 4 | 5 => 5 | 9 => 9 | 20 => 20 | 37 => 56 | 70 => 90 | 72 => 92 | 75 => 33 | 80 => 97 | 164 => 65 | n => n, fun | n => n⟩
theorem Tryd.lays166 : Go.Proofs.Lays.n166 Tryd.prog Tryd.lays166_ren := {
  mixed := by kernel_rfl
  f166 := Tryd.func44.trans (congrArg some (by kernel_rfl))
  f240 := Tryd.func61.trans (congrArg some (by kernel_rfl))
  f276 := Tryd.func70.trans (congrArg some (by kernel_rfl))
  t0 := Tryd.underlying0
  a0 := Tryd.isAgg0
  z0 := Tryd.sizeOf0
  v0 := Tryd.zeroValue0
  t3 := Tryd.underlying3
  a3 := Tryd.isAgg3
  z3 := Tryd.sizeOf3
  v3 := Tryd.zeroValue3
  t4 := Tryd.underlying4
  a4 := Tryd.isAgg4
  z4 := Tryd.sizeOf4
  v4 := Tryd.zeroValue4
  t9 := Tryd.underlying9
  a9 := Tryd.isAgg9
  z9 := Tryd.sizeOf9
  v9 := Tryd.zeroValue9
  t20 := Tryd.underlying20
  a20 := Tryd.isAgg20
  z20 := Tryd.sizeOf20
  v20 := Tryd.zeroValue20
  t37 := Tryd.underlying56
  a37 := Tryd.isAgg56
  z37 := Tryd.sizeOf56
  v37 := Tryd.zeroValue56
  t70 := Tryd.underlying90
  a70 := Tryd.isAgg90
  z70 := Tryd.sizeOf90
  v70 := Tryd.zeroValue90
  t72 := Tryd.underlying92
  a72 := Tryd.isAgg92
  z72 := Tryd.sizeOf92
  v72 := Tryd.zeroValue92
  t75 := Tryd.underlying33
  a75 := Tryd.isAgg33
  z75 := Tryd.sizeOf33
  v75 := Tryd.zeroValue33
  t164 := Tryd.underlying65
  a164 := Tryd.isAgg65
  z164 := Tryd.sizeOf65
  v164 := Tryd.zeroValue65 }
theorem Tryd.Builder_Extra_166 : Builder.Extra Tryd.prog Tryd.lays166_ren := {
  sizeBuilder := by kernel_rfl
  liesBuilder := by kernel_rfl
  t5 := Tryd.underlying5
  a5 := Tryd.isAgg5
  z5 := Tryd.sizeOf5
  v5 := Tryd.zeroValue5
  infoByte := by kernel_rfl
  cellsByte := by kernel_rfl
  sizeByte := by kernel_rfl
  neB5 := by decide }
open Go.RowKit in
theorem Tryd.Builder_WriteString_k (B b : Nat) (bs : List Value) (s : ByteArray) (w : World) (h : Lib.IsBuilderF 92 5 B b bs w) (hlen : bs.length + s.size ≤ 140737488355328) (hBw : B ≤ w.heap.size) :
    Calls Tryd.prog 44 #[.pointer (some ⟨b, 0, none⟩), .string s] w fun e w' => e = .returned (.tuple #[.int .i64 s.size, .nilIface]) ∧ (Lib.BuilderAtF 92 5 B b (.pointer (some ⟨b, 0, none⟩)) (bs ++ Lib.strCells s) w' ∧ Below B w w' ∧ Lib.OthersKept 5 (some b) w w') := Any.Builder_WriteString_k Tryd.lays166 Tryd.Builder_Extra_166 B b bs s w h hlen hBw
end Go.Proofs
