/-
  THE SHELF's CONTRACTS FOR strings.Builder, LAID AT THIS PROGRAM BY HAND: one table of numbers for all of them, every field by its make.
-/
import Derived.Shelf.Strings.Builder1
import Derived.Shelf.Strings.BuilderF
import Derived.Shelf.Strings.BuilderK
import Derived.Test.Qxb6603960aProg
namespace Go.Proofs
open Go.Shelf Go.RowKit

def Try.ren : Go.Shelf.Ren := ⟨fun | 166 => 8 | 167 => 27 | 169 => 10 | 170 => 25 | 240 => 22 | 276 => 26 | n => n, fun | 0 => 0 | 1 => 1 | 2 => 2 | 3 => 3 | 4 => 4 | 5 => 5 | 6 => 6 | 7 => 7 | 8 => 8 | 9 => 9 | 10 => 10 | 11 => 11 | 12 => 12 | 13 => 13 | 14 => 14 | 15 => 15 | 16 => 16 | 17 => 17 | 18 => 18 | 19 => 19 | 20 => 20 | 21 => 21 | 22 => 22 | 37 => 24 | 41 => 45 | 51 => 63 | 69 => 35 | 70 => 23 | 71 => 25 | 72 => 26 | 74 => 27 | 75 => 28 | 76 => 29 | 77 => 30 | 78 => 57 | 80 => 32 | 81 => 54 | 83 => 42 | 103 => 46 | 104 => 43 | 127 => 47 | 131 => 40 | 164 => 55 | 165 => 56 | 238 => 58 | 239 => 59 | 240 => 60 | 241 => 61 | 242 => 62 | 243 => 64 | 244 => 65 | 245 => 66 | 246 => 67 | 247 => 68 | 248 => 69 | 249 => 70 | n => n, fun n => n⟩

theorem Try.lays240 : Lays.n240 Try.prog Try.ren where
  mixed := by kernel_rfl
  f240 := Try.func22.trans (congrArg some (by kernel_rfl))
  f276 := Try.func26.trans (congrArg some (by kernel_rfl))
  t0 := Try.underlying0
  a0 := Try.isAgg0
  z0 := Try.sizeOf0
  v0 := Try.zeroValue0
  t4 := Try.underlying4
  a4 := Try.isAgg4
  z4 := Try.sizeOf4
  v4 := Try.zeroValue4
  t9 := Try.underlying9
  a9 := Try.isAgg9
  z9 := Try.sizeOf9
  v9 := Try.zeroValue9
  t20 := Try.underlying20
  a20 := Try.isAgg20
  z20 := Try.sizeOf20
  v20 := Try.zeroValue20
  t70 := Try.underlying23
  a70 := Try.isAgg23
  z70 := Try.sizeOf23
  v70 := Try.zeroValue23
  t72 := Try.underlying26
  a72 := Try.isAgg26
  z72 := Try.sizeOf26
  v72 := Try.zeroValue26
  t164 := Try.underlying55
  a164 := Try.isAgg55
  z164 := Try.sizeOf55
  v164 := Try.zeroValue55

theorem Try.lays166 : Lays.n166 Try.prog Try.ren where
  mixed := by kernel_rfl
  f166 := Try.func8.trans (congrArg some (by kernel_rfl))
  f240 := Try.func22.trans (congrArg some (by kernel_rfl))
  f276 := Try.func26.trans (congrArg some (by kernel_rfl))
  t0 := Try.underlying0
  a0 := Try.isAgg0
  z0 := Try.sizeOf0
  v0 := Try.zeroValue0
  t3 := Try.underlying3
  a3 := Try.isAgg3
  z3 := Try.sizeOf3
  v3 := Try.zeroValue3
  t4 := Try.underlying4
  a4 := Try.isAgg4
  z4 := Try.sizeOf4
  v4 := Try.zeroValue4
  t9 := Try.underlying9
  a9 := Try.isAgg9
  z9 := Try.sizeOf9
  v9 := Try.zeroValue9
  t20 := Try.underlying20
  a20 := Try.isAgg20
  z20 := Try.sizeOf20
  v20 := Try.zeroValue20
  t37 := Try.underlying24
  a37 := Try.isAgg24
  z37 := Try.sizeOf24
  v37 := Try.zeroValue24
  t70 := Try.underlying23
  a70 := Try.isAgg23
  z70 := Try.sizeOf23
  v70 := Try.zeroValue23
  t72 := Try.underlying26
  a72 := Try.isAgg26
  z72 := Try.sizeOf26
  v72 := Try.zeroValue26
  t75 := Try.underlying28
  a75 := Try.isAgg28
  z75 := Try.sizeOf28
  v75 := Try.zeroValue28
  t164 := Try.underlying55
  a164 := Try.isAgg55
  z164 := Try.sizeOf55
  v164 := Try.zeroValue55

theorem Try.lays167 : Lays.n167 Try.prog Try.ren where
  mixed := by kernel_rfl
  f167 := Try.func27.trans (congrArg some (by kernel_rfl))
  f240 := Try.func22.trans (congrArg some (by kernel_rfl))
  f276 := Try.func26.trans (congrArg some (by kernel_rfl))
  t0 := Try.underlying0
  a0 := Try.isAgg0
  z0 := Try.sizeOf0
  v0 := Try.zeroValue0
  t4 := Try.underlying4
  a4 := Try.isAgg4
  z4 := Try.sizeOf4
  v4 := Try.zeroValue4
  t5 := Try.underlying5
  a5 := Try.isAgg5
  z5 := Try.sizeOf5
  v5 := Try.zeroValue5
  t9 := Try.underlying9
  a9 := Try.isAgg9
  z9 := Try.sizeOf9
  v9 := Try.zeroValue9
  t20 := Try.underlying20
  a20 := Try.isAgg20
  z20 := Try.sizeOf20
  v20 := Try.zeroValue20
  t37 := Try.underlying24
  a37 := Try.isAgg24
  z37 := Try.sizeOf24
  v37 := Try.zeroValue24
  t70 := Try.underlying23
  a70 := Try.isAgg23
  z70 := Try.sizeOf23
  v70 := Try.zeroValue23
  t72 := Try.underlying26
  a72 := Try.isAgg26
  z72 := Try.sizeOf26
  v72 := Try.zeroValue26
  t75 := Try.underlying28
  a75 := Try.isAgg28
  z75 := Try.sizeOf28
  v75 := Try.zeroValue28
  t164 := Try.underlying55
  a164 := Try.isAgg55
  z164 := Try.sizeOf55
  v164 := Try.zeroValue55

theorem Try.lays169 : Lays.n169 Try.prog Try.ren where
  mixed := by kernel_rfl
  f169 := Try.func10.trans (congrArg some (by kernel_rfl))
  t0 := Try.underlying0
  a0 := Try.isAgg0
  z0 := Try.sizeOf0
  v0 := Try.zeroValue0
  t3 := Try.underlying3
  a3 := Try.isAgg3
  z3 := Try.sizeOf3
  v3 := Try.zeroValue3
  t9 := Try.underlying9
  a9 := Try.isAgg9
  z9 := Try.sizeOf9
  v9 := Try.zeroValue9
  t37 := Try.underlying24
  a37 := Try.isAgg24
  z37 := Try.sizeOf24
  v37 := Try.zeroValue24
  t70 := Try.underlying23
  a70 := Try.isAgg23
  z70 := Try.sizeOf23
  v70 := Try.zeroValue23
  t72 := Try.underlying26
  a72 := Try.isAgg26
  z72 := Try.sizeOf26
  v72 := Try.zeroValue26
  t127 := Try.underlying47
  a127 := Try.isAgg47
  z127 := Try.sizeOf47
  v127 := Try.zeroValue47

theorem Try.lays170 : Lays.n170 Try.prog Try.ren where
  mixed := by kernel_rfl
  f170 := Try.func25.trans (congrArg some (by kernel_rfl))
  t0 := Try.underlying0
  a0 := Try.isAgg0
  z0 := Try.sizeOf0
  v0 := Try.zeroValue0
  t3 := Try.underlying3
  a3 := Try.isAgg3
  z3 := Try.sizeOf3
  v3 := Try.zeroValue3
  t37 := Try.underlying24
  a37 := Try.isAgg24
  z37 := Try.sizeOf24
  v37 := Try.zeroValue24
  t70 := Try.underlying23
  a70 := Try.isAgg23
  z70 := Try.sizeOf23
  v70 := Try.zeroValue23
  t72 := Try.underlying26
  a72 := Try.isAgg26
  z72 := Try.sizeOf26
  v72 := Try.zeroValue26

theorem Try.builderX72 : Builder.X72 Try.prog Try.ren where
  sizeBuilder := by kernel_rfl
  liesBuilder := by kernel_rfl

theorem Try.builderExtra : Builder.Extra Try.prog Try.ren where
  sizeBuilder := by kernel_rfl
  liesBuilder := by kernel_rfl
  t5 := Try.underlying5
  a5 := Try.isAgg5
  z5 := Try.sizeOf5
  v5 := Try.zeroValue5
  infoByte := by kernel_rfl
  cellsByte := by kernel_rfl
  sizeByte := by kernel_rfl
  neB5 := by decide

theorem Try.Builder_WriteByte_k (B b : Nat) (bs : List Value) (c : Int) (w : World) (h : Lib.IsBuilderF 26 5 B b bs w) (hlen : bs.length + 1 ≤ 140737488355328) (hBw : B ≤ w.heap.size) :
    Calls Try.prog 27 #[.pointer (some ⟨b, 0, none⟩), .int .u8 c] w fun e w' => e = .returned .nilIface ∧ (Lib.BuilderAtF 26 5 B b (.pointer (some ⟨b, 0, none⟩)) (bs ++ [.int .u8 c]) w' ∧ Below B w w' ∧ Lib.OthersKept 5 (some b) w w') := Any.Builder_WriteByte_k Try.lays167 Try.builderExtra B b bs c w h hlen hBw

theorem Try.Builder_WriteString_k (B b : Nat) (bs : List Value) (s : ByteArray) (w : World) (h : Lib.IsBuilderF 26 5 B b bs w) (hlen : bs.length + s.size ≤ 140737488355328) (hBw : B ≤ w.heap.size) :
    Calls Try.prog 8 #[.pointer (some ⟨b, 0, none⟩), .string s] w fun e w' => e = .returned (.tuple #[.int .i64 s.size, .nilIface]) ∧ (Lib.BuilderAtF 26 5 B b (.pointer (some ⟨b, 0, none⟩)) (bs ++ Lib.strCells s) w' ∧ Below B w w' ∧ Lib.OthersKept 5 (some b) w w') := Any.Builder_WriteString_k Try.lays166 Try.builderExtra B b bs s w h hlen hBw

theorem Try.Builder_String_any_k (B b : Nat) (l : List UInt8) (w : World) (h : Lib.IsBuilderF 26 5 B b (Lib.byteCells l) w) (hBw : B ≤ w.heap.size) :
    Calls Try.prog 10 #[.pointer (some ⟨b, 0, none⟩)] w fun e w' => e = .returned (.string ⟨l.toArray⟩) ∧ (Lib.IsBuilderF 26 5 B b (Lib.byteCells l) w' ∧ Below B w w' ∧ Lib.OthersKept 5 (some b) w w') := Any.Builder_String_any_k Try.lays169 Try.builderExtra B b l w h hBw

theorem Try.Builder_Len_f (B b : Nat) (bs : List Value) (w : World) (h : Lib.IsBuilderF 26 5 B b bs w) :
    Calls Try.prog 25 #[.pointer (some ⟨b, 0, none⟩)] w fun e w' => e = .returned (.int .i64 bs.length) ∧ w' = w := Any.Builder_Len_f Try.lays170 B b bs w h

end Go.Proofs
