/- Contracts of Go's library at this program's numbers, each laid by one application: strings.Builder, IndexByte, CutSuffix, IsLetter, IsDigit, path.Clean. -/
import Derived.Shelf.Strings.Builder1
import Derived.Shelf.Small.Strs
import Derived.Shelf.Small.Wraps
import Derived.Shelf.Strings.BuilderF
import Derived.Shelf.Strings.BuilderK
import Derived.Shelf.Strings.Prefix
import Derived.Shelf.Unicode.Latin
import Derived.Shelf.LaysM
import Derived.Shelf.Unicode.PropsLaid
import Derived.Ground.PaProg
import Derived.Shelf.Path.Clean
import Derived.Test.YtmkbkpeccddejaaDoorProg
namespace Go.Proofs
open Go.Shelf Go.RowKit
def Tryd.lays240_ren : Go.Shelf.Ren := ⟨fun | 240 => 32 | 276 => 43 | n => n, fun | 0 => 0 | 3 => 3 | 4 => 4 | 5 => 5 | 9 => 9 | 20 => 20 | 37 => 55 | 70 => 54 | 72 => 57 | 75 => 64 | 80 => 66 | 164 => 84 | n => n, fun | n => n⟩
theorem Tryd.lays240 : Go.Proofs.Lays.n240 Tryd.prog Tryd.lays240_ren := {
  mixed := by kernel_rfl
  f240 := Tryd.func32.trans (congrArg some (by kernel_rfl))
  f276 := Tryd.func43.trans (congrArg some (by kernel_rfl))
  t0 := Tryd.underlying0
  a0 := Tryd.isAgg0
  z0 := Tryd.sizeOf0
  v0 := Tryd.zeroValue0
  t4 := Tryd.underlying4
  a4 := Tryd.isAgg4
  z4 := Tryd.sizeOf4
  v4 := Tryd.zeroValue4
  t9 := Tryd.underlying9
  a9 := Tryd.isAgg9
  z9 := Tryd.sizeOf9
  v9 := Tryd.zeroValue9
  t20 := Tryd.underlying20
  a20 := Tryd.isAgg20
  z20 := Tryd.sizeOf20
  v20 := Tryd.zeroValue20
  t70 := Tryd.underlying54
  a70 := Tryd.isAgg54
  z70 := Tryd.sizeOf54
  v70 := Tryd.zeroValue54
  t72 := Tryd.underlying57
  a72 := Tryd.isAgg57
  z72 := Tryd.sizeOf57
  v72 := Tryd.zeroValue57
  t164 := Tryd.underlying84
  a164 := Tryd.isAgg84
  z164 := Tryd.sizeOf84
  v164 := Tryd.zeroValue84 }

def Tryd.lays167_ren : Go.Shelf.Ren := ⟨fun | 167 => 26 | 240 => 32 | 276 => 43 | n => n, fun | 0 => 0 | 3 => 3 | 4 => 4 | 5 => 5 | 9 => 9 | 20 => 20 | 37 => 55 | 70 => 54 | 72 => 57 | 75 => 64 | 80 => 66 | 164 => 84 | n => n, fun | n => n⟩
theorem Tryd.lays167 : Go.Proofs.Lays.n167 Tryd.prog Tryd.lays167_ren := {
  mixed := by kernel_rfl
  f167 := Tryd.func26.trans (congrArg some (by kernel_rfl))
  f240 := Tryd.func32.trans (congrArg some (by kernel_rfl))
  f276 := Tryd.func43.trans (congrArg some (by kernel_rfl))
  t0 := Tryd.underlying0
  a0 := Tryd.isAgg0
  z0 := Tryd.sizeOf0
  v0 := Tryd.zeroValue0
  t4 := Tryd.underlying4
  a4 := Tryd.isAgg4
  z4 := Tryd.sizeOf4
  v4 := Tryd.zeroValue4
  t5 := Tryd.underlying5
  a5 := Tryd.isAgg5
  z5 := Tryd.sizeOf5
  v5 := Tryd.zeroValue5
  t9 := Tryd.underlying9
  a9 := Tryd.isAgg9
  z9 := Tryd.sizeOf9
  v9 := Tryd.zeroValue9
  t20 := Tryd.underlying20
  a20 := Tryd.isAgg20
  z20 := Tryd.sizeOf20
  v20 := Tryd.zeroValue20
  t37 := Tryd.underlying55
  a37 := Tryd.isAgg55
  z37 := Tryd.sizeOf55
  v37 := Tryd.zeroValue55
  t70 := Tryd.underlying54
  a70 := Tryd.isAgg54
  z70 := Tryd.sizeOf54
  v70 := Tryd.zeroValue54
  t72 := Tryd.underlying57
  a72 := Tryd.isAgg57
  z72 := Tryd.sizeOf57
  v72 := Tryd.zeroValue57
  t75 := Tryd.underlying64
  a75 := Tryd.isAgg64
  z75 := Tryd.sizeOf64
  v75 := Tryd.zeroValue64
  t164 := Tryd.underlying84
  a164 := Tryd.isAgg84
  z164 := Tryd.sizeOf84
  v164 := Tryd.zeroValue84 }
theorem Tryd.Builder_Extra_167 : Builder.Extra Tryd.prog Tryd.lays167_ren := {
  sizeBuilder := by kernel_rfl
  liesBuilder := by kernel_rfl
  t5 := Tryd.underlying5
  a5 := Tryd.isAgg5
  z5 := Tryd.sizeOf5
  v5 := Tryd.zeroValue5
  infoByte := by kernel_rfl
  cellsByte := by kernel_rfl
  sizeByte := by kernel_rfl
  neB5 := by decide }

def Tryd.lays166_ren : Go.Shelf.Ren := ⟨fun | 166 => 28 | 240 => 32 | 276 => 43 | n => n, fun | 0 => 0 | 3 => 3 | 4 => 4 | 5 => 5 | 9 => 9 | 20 => 20 | 37 => 55 | 70 => 54 | 72 => 57 | 75 => 64 | 80 => 66 | 164 => 84 | n => n, fun | n => n⟩
theorem Tryd.lays166 : Go.Proofs.Lays.n166 Tryd.prog Tryd.lays166_ren := {
  mixed := by kernel_rfl
  f166 := Tryd.func28.trans (congrArg some (by kernel_rfl))
  f240 := Tryd.func32.trans (congrArg some (by kernel_rfl))
  f276 := Tryd.func43.trans (congrArg some (by kernel_rfl))
  t0 := Tryd.underlying0
  a0 := Tryd.isAgg0
  z0 := Tryd.sizeOf0
  v0 := Tryd.zeroValue0
  t3 := Tryd.underlying3
  a3 := Tryd.isAgg3
  z3 := Tryd.sizeOf3
  v3 := Tryd.zeroValue3
  t4 := Tryd.underlying4
  a4 := Tryd.isAgg4
  z4 := Tryd.sizeOf4
  v4 := Tryd.zeroValue4
  t9 := Tryd.underlying9
  a9 := Tryd.isAgg9
  z9 := Tryd.sizeOf9
  v9 := Tryd.zeroValue9
  t20 := Tryd.underlying20
  a20 := Tryd.isAgg20
  z20 := Tryd.sizeOf20
  v20 := Tryd.zeroValue20
  t37 := Tryd.underlying55
  a37 := Tryd.isAgg55
  z37 := Tryd.sizeOf55
  v37 := Tryd.zeroValue55
  t70 := Tryd.underlying54
  a70 := Tryd.isAgg54
  z70 := Tryd.sizeOf54
  v70 := Tryd.zeroValue54
  t72 := Tryd.underlying57
  a72 := Tryd.isAgg57
  z72 := Tryd.sizeOf57
  v72 := Tryd.zeroValue57
  t75 := Tryd.underlying64
  a75 := Tryd.isAgg64
  z75 := Tryd.sizeOf64
  v75 := Tryd.zeroValue64
  t164 := Tryd.underlying84
  a164 := Tryd.isAgg84
  z164 := Tryd.sizeOf84
  v164 := Tryd.zeroValue84 }
theorem Tryd.Builder_Extra_166 : Builder.Extra Tryd.prog Tryd.lays166_ren := {
  sizeBuilder := by kernel_rfl
  liesBuilder := by kernel_rfl
  t5 := Tryd.underlying5
  a5 := Tryd.isAgg5
  z5 := Tryd.sizeOf5
  v5 := Tryd.zeroValue5
  infoByte := by kernel_rfl
  cellsByte := by kernel_rfl
  sizeByte := by kernel_rfl
  neB5 := by decide }


open Go.RowKit in
theorem Tryd.Builder_WriteByte_k (B b : Nat) (bs : List Value) (c : Int) (w : World) (h : Lib.IsBuilderF 57 5 B b bs w) (hlen : bs.length + 1 ≤ 140737488355328) (hBw : B ≤ w.heap.size) :
    Calls Tryd.prog 26 #[.pointer (some ⟨b, 0, none⟩), .int .u8 c] w fun e w' => e = .returned .nilIface ∧ (Lib.BuilderAtF 57 5 B b (.pointer (some ⟨b, 0, none⟩)) (bs ++ [.int .u8 c]) w' ∧ Below B w w' ∧ Lib.OthersKept 5 (some b) w w') := Any.Builder_WriteByte_k Tryd.lays167 Tryd.Builder_Extra_167 B b bs c w h hlen hBw
open Go.RowKit in
theorem Tryd.Builder_WriteString_k (B b : Nat) (bs : List Value) (s : ByteArray) (w : World) (h : Lib.IsBuilderF 57 5 B b bs w) (hlen : bs.length + s.size ≤ 140737488355328) (hBw : B ≤ w.heap.size) :
    Calls Tryd.prog 28 #[.pointer (some ⟨b, 0, none⟩), .string s] w fun e w' => e = .returned (.tuple #[.int .i64 s.size, .nilIface]) ∧ (Lib.BuilderAtF 57 5 B b (.pointer (some ⟨b, 0, none⟩)) (bs ++ Lib.strCells s) w' ∧ Below B w w' ∧ Lib.OthersKept 5 (some b) w w') := Any.Builder_WriteString_k Tryd.lays166 Tryd.Builder_Extra_166 B b bs s w h hlen hBw
def Tryd.lays169_ren : Go.Shelf.Ren := ⟨fun | 169 => 27 | n => n, fun | 70 => 54 | 9 => 9 | 0 => 0 | 72 => 57 | 37 => 55 | 127 => 73 | 3 => 3 | 5 => 5 | n => n, fun | n => n⟩
theorem Tryd.lays169 : Go.Proofs.Lays.n169 Tryd.prog Tryd.lays169_ren := {
  mixed := by kernel_rfl
  f169 := Tryd.func27.trans (congrArg some (by kernel_rfl))
  t0 := Tryd.underlying0
  a0 := Tryd.isAgg0
  z0 := Tryd.sizeOf0
  v0 := Tryd.zeroValue0
  t3 := Tryd.underlying3
  a3 := Tryd.isAgg3
  z3 := Tryd.sizeOf3
  v3 := Tryd.zeroValue3
  t9 := Tryd.underlying9
  a9 := Tryd.isAgg9
  z9 := Tryd.sizeOf9
  v9 := Tryd.zeroValue9
  t37 := Tryd.underlying55
  a37 := Tryd.isAgg55
  z37 := Tryd.sizeOf55
  v37 := Tryd.zeroValue55
  t70 := Tryd.underlying54
  a70 := Tryd.isAgg54
  z70 := Tryd.sizeOf54
  v70 := Tryd.zeroValue54
  t72 := Tryd.underlying57
  a72 := Tryd.isAgg57
  z72 := Tryd.sizeOf57
  v72 := Tryd.zeroValue57
  t127 := Tryd.underlying73
  a127 := Tryd.isAgg73
  z127 := Tryd.sizeOf73
  v127 := Tryd.zeroValue73 }
theorem Tryd.Builder_Extra_169 : Builder.Extra Tryd.prog Tryd.lays169_ren := {
  sizeBuilder := by kernel_rfl
  liesBuilder := by kernel_rfl
  t5 := Tryd.underlying5
  a5 := Tryd.isAgg5
  z5 := Tryd.sizeOf5
  v5 := Tryd.zeroValue5
  infoByte := by kernel_rfl
  cellsByte := by kernel_rfl
  sizeByte := by kernel_rfl
  neB5 := by decide }
theorem Tryd.Builder_String_k (B b : Nat) (l : List UInt8) (w : World) (h : Lib.IsBuilderF 57 5 B b (Lib.byteCells l) w) (h0 : l ≠ []) :
    Calls Tryd.prog 27 #[.pointer (some ⟨b, 0, none⟩)] w fun e w' => e = .returned (.string ⟨l.toArray⟩) ∧ (Lib.IsBuilderF 57 5 B b (Lib.byteCells l) w' ∧ Below B w w' ∧ Lib.OthersKept 5 (some b) w w') := Any.Builder_String_k Tryd.lays169 Tryd.Builder_Extra_169 B b l w h h0
theorem Tryd.Builder_String_any_k (B b : Nat) (l : List UInt8) (w : World) (h : Lib.IsBuilderF 57 5 B b (Lib.byteCells l) w) (hBw : B ≤ w.heap.size) :
    Calls Tryd.prog 27 #[.pointer (some ⟨b, 0, none⟩)] w fun e w' => e = .returned (.string ⟨l.toArray⟩) ∧ (Lib.IsBuilderF 57 5 B b (Lib.byteCells l) w' ∧ Below B w w' ∧ Lib.OthersKept 5 (some b) w w') := Any.Builder_String_any_k Tryd.lays169 Tryd.Builder_Extra_169 B b l w h hBw
def Tryd.lays137_ren : Go.Shelf.Ren := ⟨fun | 137 => 38 | 217 => 45 | 266 => 52 | n => n, fun | 9 => 9 | 5 => 5 | 3 => 3 | n => n, fun | n => n⟩
theorem Tryd.lays137 : Go.Proofs.Lays.n137 Tryd.prog Tryd.lays137_ren := {
  mixed := by kernel_rfl
  f137 := Tryd.func38.trans (congrArg some (by kernel_rfl))
  f217 := Tryd.func45.trans (congrArg some (by kernel_rfl))
  f266 := Tryd.func52.trans (congrArg some (by kernel_rfl))
  t3 := Tryd.underlying3
  a3 := Tryd.isAgg3
  z3 := Tryd.sizeOf3
  v3 := Tryd.zeroValue3
  t5 := Tryd.underlying5
  a5 := Tryd.isAgg5
  z5 := Tryd.sizeOf5
  v5 := Tryd.zeroValue5
  t9 := Tryd.underlying9
  a9 := Tryd.isAgg9
  z9 := Tryd.sizeOf9
  v9 := Tryd.zeroValue9 }
theorem Tryd.strings_IndexByte (s : ByteArray) (c : Int) (w : World) :
    Calls Tryd.prog 38 #[.string s, .int .u8 c] w fun e w' => e = .returned (.int .i64 (Lib.indexByte s.data.toList c.toNat.toUInt8)) ∧ w' = w := Any.strings_IndexByte Tryd.lays137 s c w
def Tryd.lays104_ren : Go.Shelf.Ren := ⟨fun | 104 => 41 | 211 => 49 | 207 => 58 | n => n, fun | 9 => 9 | 4 => 4 | 24 => 82 | 3 => 3 | n => n, fun | n => n⟩
theorem Tryd.lays104 : Go.Proofs.Lays.n104 Tryd.prog Tryd.lays104_ren := {
  mixed := by kernel_rfl
  f104 := Tryd.func41.trans (congrArg some (by kernel_rfl))
  f207 := Tryd.func58.trans (congrArg some (by kernel_rfl))
  f211 := Tryd.func49.trans (congrArg some (by kernel_rfl))
  t3 := Tryd.underlying3
  a3 := Tryd.isAgg3
  z3 := Tryd.sizeOf3
  v3 := Tryd.zeroValue3
  t4 := Tryd.underlying4
  a4 := Tryd.isAgg4
  z4 := Tryd.sizeOf4
  v4 := Tryd.zeroValue4
  t9 := Tryd.underlying9
  a9 := Tryd.isAgg9
  z9 := Tryd.sizeOf9
  v9 := Tryd.zeroValue9
  t24 := Tryd.underlying82
  a24 := Tryd.isAgg82
  z24 := Tryd.sizeOf82
  v24 := Tryd.zeroValue82 }
theorem Tryd.strings_CutSuffix (s p : ByteArray) (w : World) (hs : s.size ≤ 9223372036854775807) :
    Calls Tryd.prog 41 #[.string s, .string p] w fun e w' => e = .returned (.tuple #[.string ⟨(Lib.trimSuffix s.data.toList p.data.toList).toArray⟩, .bool (Lib.hasSuffix s.data.toList p.data.toList)]) ∧ w' = w := Any.strings_CutSuffix Tryd.lays104 s p w hs
def Tryd.lays99_ren : Go.Shelf.Ren := ⟨fun | 99 => 47 | 206 => 56 | n => n, fun | 9 => 9 | 4 => 4 | 3 => 3 | n => n, fun | n => n⟩
theorem Tryd.lays99 : Go.Proofs.Lays.n99 Tryd.prog Tryd.lays99_ren := {
  mixed := by kernel_rfl
  f99 := Tryd.func47.trans (congrArg some (by kernel_rfl))
  f206 := Tryd.func56.trans (congrArg some (by kernel_rfl))
  t3 := Tryd.underlying3
  a3 := Tryd.isAgg3
  z3 := Tryd.sizeOf3
  v3 := Tryd.zeroValue3
  t4 := Tryd.underlying4
  a4 := Tryd.isAgg4
  z4 := Tryd.sizeOf4
  v4 := Tryd.zeroValue4
  t9 := Tryd.underlying9
  a9 := Tryd.isAgg9
  z9 := Tryd.sizeOf9
  v9 := Tryd.zeroValue9 }
open Go.RowKit Go.Lib in
/-- strings.HasPrefix: "HasPrefix reports whether the string s begins with prefix.": IT RETURNS 'Lib.hasPrefix s prefix'; the world is as it was. (LAID: no walk: one application.) -/
theorem Tryd.strings_HasPrefix (s p : ByteArray) (w : World) :
    Calls Tryd.prog 47 #[.string s, .string p] w fun e w' => e = .returned (.bool (Lib.hasPrefix s.data.toList p.data.toList)) ∧ w' = w := Any.strings_HasPrefix Tryd.lays99 s p w
def Tryd.lays198_ren : Go.Shelf.Ren := ⟨fun | 198 => 51 | 261 => 59 | 311 => 64 | 312 => 65 | n => n, fun | 21 => 21 | 4 => 4 | 141 => 103 | 0 => 0 | 196 => 115 | 193 => 112 | 3 => 3 | 51 => 100 | 198 => 118 | 49 => 116 | 194 => 113 | 201 => 121 | 226 => 124 | 46 => 108 | 227 => 125 | n => n, fun | 5 => 2 | n => n⟩
theorem Tryd.lays198 : Go.Proofs.Lays.n198 Tryd.prog Tryd.lays198_ren := {
  mixed := by kernel_rfl
  f198 := Tryd.func51.trans (congrArg some (by kernel_rfl))
  f261 := Tryd.func59.trans (congrArg some (by kernel_rfl))
  f311 := Tryd.func64.trans (congrArg some (by kernel_rfl))
  f312 := Tryd.func65.trans (congrArg some (by kernel_rfl))
  t0 := Tryd.underlying0
  a0 := Tryd.isAgg0
  z0 := Tryd.sizeOf0
  v0 := Tryd.zeroValue0
  t3 := Tryd.underlying3
  a3 := Tryd.isAgg3
  z3 := Tryd.sizeOf3
  v3 := Tryd.zeroValue3
  t4 := Tryd.underlying4
  a4 := Tryd.isAgg4
  z4 := Tryd.sizeOf4
  v4 := Tryd.zeroValue4
  t21 := Tryd.underlying21
  a21 := Tryd.isAgg21
  z21 := Tryd.sizeOf21
  v21 := Tryd.zeroValue21
  t46 := Tryd.underlying108
  a46 := Tryd.isAgg108
  z46 := Tryd.sizeOf108
  v46 := Tryd.zeroValue108
  t49 := Tryd.underlying116
  a49 := Tryd.isAgg116
  z49 := Tryd.sizeOf116
  v49 := Tryd.zeroValue116
  t51 := Tryd.underlying100
  a51 := Tryd.isAgg100
  z51 := Tryd.sizeOf100
  v51 := Tryd.zeroValue100
  t141 := Tryd.underlying103
  a141 := Tryd.isAgg103
  z141 := Tryd.sizeOf103
  v141 := Tryd.zeroValue103
  t193 := Tryd.underlying112
  a193 := Tryd.isAgg112
  z193 := Tryd.sizeOf112
  v193 := Tryd.zeroValue112
  t194 := Tryd.underlying113
  a194 := Tryd.isAgg113
  z194 := Tryd.sizeOf113
  v194 := Tryd.zeroValue113
  t196 := Tryd.underlying115
  a196 := Tryd.isAgg115
  z196 := Tryd.sizeOf115
  v196 := Tryd.zeroValue115
  t198 := Tryd.underlying118
  a198 := Tryd.isAgg118
  z198 := Tryd.sizeOf118
  v198 := Tryd.zeroValue118
  t201 := Tryd.underlying121
  a201 := Tryd.isAgg121
  z201 := Tryd.sizeOf121
  v201 := Tryd.zeroValue121
  t226 := Tryd.underlying124
  a226 := Tryd.isAgg124
  z226 := Tryd.sizeOf124
  v226 := Tryd.zeroValue124
  t227 := Tryd.underlying125
  a227 := Tryd.isAgg125
  z227 := Tryd.sizeOf125
  v227 := Tryd.zeroValue125
  g5 := by kernel_rfl }
open Go.RowKit Go.Lib in
theorem Tryd.unicode_IsDigit (r : Int) (w : World) (h : r ≤ 255) :
    Calls Tryd.prog 51 #[.int .i32 r] w fun e w' => e = .returned (.bool (Lib.isDigitL r)) ∧ w' = w := Any.unicode_IsDigit Tryd.lays198 r w h
def Tryd.laysM200_ren : Go.Shelf.Ren := ⟨fun | 200 => 50 | 261 => 59 | 311 => 64 | 312 => 65 | n => n, fun | 21 => 21 | 4 => 4 | 51 => 100 | 5 => 5 | 119 => 101 | 0 => 0 | 141 => 103 | 196 => 115 | 193 => 112 | 3 => 3 | 198 => 118 | 49 => 116 | 194 => 113 | 201 => 121 | 226 => 124 | 46 => 108 | 227 => 125 | n => n, fun | 7 => 0 | 8 => 1 | n => n⟩
theorem Tryd.laysM200 : Go.Proofs.LaysM.n200 Tryd.prog Tryd.laysM200_ren := {
  mixed := by kernel_rfl
  f200 := Tryd.func50.trans (congrArg some (by kernel_rfl))
  f261 := Tryd.func59.trans (congrArg some (by kernel_rfl))
  f311 := Tryd.func64.trans (congrArg some (by kernel_rfl))
  f312 := Tryd.func65.trans (congrArg some (by kernel_rfl))
  t0 := Tryd.underlying0
  a0 := Tryd.isAgg0
  z0 := Tryd.sizeOf0
  v0 := Tryd.zeroValue0
  t3 := Tryd.underlying3
  a3 := Tryd.isAgg3
  z3 := Tryd.sizeOf3
  v3 := Tryd.zeroValue3
  t4 := Tryd.underlying4
  a4 := Tryd.isAgg4
  z4 := Tryd.sizeOf4
  v4 := Tryd.zeroValue4
  t5 := Tryd.underlying5
  a5 := Tryd.isAgg5
  z5 := Tryd.sizeOf5
  v5 := Tryd.zeroValue5
  t21 := Tryd.underlying21
  a21 := Tryd.isAgg21
  z21 := Tryd.sizeOf21
  v21 := Tryd.zeroValue21
  t46 := Tryd.underlying108
  a46 := Tryd.isAgg108
  z46 := Tryd.sizeOf108
  v46 := Tryd.zeroValue108
  t49 := Tryd.underlying116
  a49 := Tryd.isAgg116
  z49 := Tryd.sizeOf116
  v49 := Tryd.zeroValue116
  t51 := Tryd.underlying100
  a51 := Tryd.isAgg100
  z51 := Tryd.sizeOf100
  v51 := Tryd.zeroValue100
  t119 := Tryd.underlying101
  a119 := Tryd.isAgg101
  z119 := Tryd.sizeOf101
  t141 := Tryd.underlying103
  a141 := Tryd.isAgg103
  z141 := Tryd.sizeOf103
  v141 := Tryd.zeroValue103
  t193 := Tryd.underlying112
  a193 := Tryd.isAgg112
  z193 := Tryd.sizeOf112
  v193 := Tryd.zeroValue112
  t194 := Tryd.underlying113
  a194 := Tryd.isAgg113
  z194 := Tryd.sizeOf113
  v194 := Tryd.zeroValue113
  t196 := Tryd.underlying115
  a196 := Tryd.isAgg115
  z196 := Tryd.sizeOf115
  v196 := Tryd.zeroValue115
  t198 := Tryd.underlying118
  a198 := Tryd.isAgg118
  z198 := Tryd.sizeOf118
  v198 := Tryd.zeroValue118
  t201 := Tryd.underlying121
  a201 := Tryd.isAgg121
  z201 := Tryd.sizeOf121
  v201 := Tryd.zeroValue121
  t226 := Tryd.underlying124
  a226 := Tryd.isAgg124
  z226 := Tryd.sizeOf124
  v226 := Tryd.zeroValue124
  t227 := Tryd.underlying125
  a227 := Tryd.isAgg125
  z227 := Tryd.sizeOf125
  v227 := Tryd.zeroValue125
  g7 := by kernel_rfl
  g8 := by kernel_rfl
  i0 := by kernel_rfl
  i3 := by kernel_rfl
  i4 := by kernel_rfl
  i5 := by kernel_rfl
  i21 := by kernel_rfl
  i46 := by kernel_rfl
  i49 := by kernel_rfl
  i51 := by kernel_rfl
  i141 := by kernel_rfl
  i193 := by kernel_rfl
  i194 := by kernel_rfl
  i196 := by kernel_rfl
  i198 := by kernel_rfl
  i201 := by kernel_rfl
  i226 := by kernel_rfl
  i227 := by kernel_rfl
  m7 := by kernel_rfl
  m8 := by kernel_rfl }
open Go.RowKit Go.Lib in
theorem Tryd.unicode_IsLetter_laid (c : Nat) (w : World) (hc : c < 256) (htab : Lib.TabIs Tryd.prog w "unicode.properties" .u8 Lib.propertiesTab) :
    Calls Tryd.prog 50 #[.int .i32 c] w fun e w' => e = .returned (.bool (Lib.isLetterL c)) ∧ w' = w := Any.unicode_IsLetter_laid Tryd.laysM200 c w hc htab
def Tryd.laysPah30_ren : Go.Shelf.Ren := ⟨fun | 30 => 46 | 46 => 53 | 47 => 54 | 48 => 55 | n => n, fun | 9 => 9 | 4 => 4 | 5 => 5 | 3 => 3 | 42 => 95 | 0 => 0 | 48 => 104 | 30 => 55 | n => n, fun | n => n⟩
theorem Tryd.laysPah30 : Go.Proofs.Lays.ph30 Tryd.prog Tryd.laysPah30_ren := {
  mixed := by kernel_rfl
  f30 := Tryd.func46.trans (congrArg some (by kernel_rfl))
  f46 := Tryd.func53.trans (congrArg some (by kernel_rfl))
  f47 := Tryd.func54.trans (congrArg some (by kernel_rfl))
  f48 := Tryd.func55.trans (congrArg some (by kernel_rfl))
  t0 := Tryd.underlying0
  a0 := Tryd.isAgg0
  z0 := Tryd.sizeOf0
  v0 := Tryd.zeroValue0
  t3 := Tryd.underlying3
  a3 := Tryd.isAgg3
  z3 := Tryd.sizeOf3
  v3 := Tryd.zeroValue3
  t4 := Tryd.underlying4
  a4 := Tryd.isAgg4
  z4 := Tryd.sizeOf4
  v4 := Tryd.zeroValue4
  t5 := Tryd.underlying5
  a5 := Tryd.isAgg5
  z5 := Tryd.sizeOf5
  v5 := Tryd.zeroValue5
  t9 := Tryd.underlying9
  a9 := Tryd.isAgg9
  z9 := Tryd.sizeOf9
  v9 := Tryd.zeroValue9
  t30 := Tryd.underlying55
  a30 := Tryd.isAgg55
  z30 := Tryd.sizeOf55
  v30 := Tryd.zeroValue55
  t42 := Tryd.underlying95
  a42 := Tryd.isAgg95
  z42 := Tryd.sizeOf95
  v42 := Tryd.zeroValue95
  t48 := Tryd.underlying104
  a48 := Tryd.isAgg104
  z48 := Tryd.sizeOf104
  v48 := Tryd.zeroValue104
  info5 := by kernel_rfl }
open Go.RowKit Go.Lib in
theorem Tryd.path_Clean (s : ByteArray) (w : World) (hbig : s.size ≤ 281474976710656) :
    Calls Tryd.prog 46 #[.string s] w fun e w' => e = .returned (.string ⟨(Pa.clean s.data.toList).toArray⟩) ∧ Below w.heap.size w w' := Any.path_Clean Tryd.laysPah30 s w hbig
end Go.Proofs
