/- Contracts of the library (bytes.Buffer), laid at this program by the shelf's plain mode. -/
import Derived.Ground.MnProg
import Derived.Ground.NamesProg
import Derived.Shelf.Bin.BEUint16
import Derived.Shelf.Bin.BEPutUint16
import Derived.Shelf.Bin.BEUint64
import Derived.Shelf.Bin.BEPutUint64
import Derived.Shelf.Unicode.ValidAny
import Derived.Test.YtbldebfjgccadaaDoorProg
namespace Go.Proofs
open Go.Shelf Go.RowKit
def Tryd.laysBin36_ren : Go.Shelf.Ren := ⟨fun | 36 => 25 | n => n, fun | 37 => 82 | 22 => 52 | 23 => 80 | 0 => 0 | 5 => 5 | 45 => 53 | n => n, fun | n => n⟩
theorem Tryd.laysBin36 : Go.Proofs.LaysBin.n36 Tryd.prog Tryd.laysBin36_ren := {
  mixed := by kernel_rfl
  f36 := Tryd.func25.trans (congrArg some (by kernel_rfl))
  t0 := Tryd.underlying0
  a0 := Tryd.isAgg0
  z0 := Tryd.sizeOf0
  v0 := Tryd.zeroValue0
  i0 := by kernel_rfl
  t5 := Tryd.underlying5
  a5 := Tryd.isAgg5
  z5 := Tryd.sizeOf5
  v5 := Tryd.zeroValue5
  i5 := by kernel_rfl
  t22 := Tryd.underlying52
  a22 := Tryd.isAgg52
  z22 := Tryd.sizeOf52
  v22 := Tryd.zeroValue52
  i22 := by kernel_rfl
  t23 := Tryd.underlying80
  a23 := Tryd.isAgg80
  z23 := Tryd.sizeOf80
  v23 := Tryd.zeroValue80
  i23 := by kernel_rfl
  t37 := Tryd.underlying82
  a37 := Tryd.isAgg82
  z37 := Tryd.sizeOf82
  v37 := Tryd.zeroValue82
  i37 := by kernel_rfl
  t45 := Tryd.underlying53
  a45 := Tryd.isAgg53
  z45 := Tryd.sizeOf53
  v45 := Tryd.zeroValue53
  i45 := by kernel_rfl }
theorem Tryd.binary_BE_Uint16 (g o n c : Nat) (b0 b1 : UInt8) (w : World) (hn : 2 ≤ n) (c0 : w.cell? ⟨g, o, none⟩ = some (.int .u8 b0.toNat)) (c1 : w.cell? ⟨g, o + 1, none⟩ = some (.int .u8 b1.toNat)) :
    Calls Tryd.prog 25 #[.agg #[], .slice (some ⟨g, o, none⟩) n c] w fun e w' => e = .returned (.int .u16 (Lib.beNat [b0, b1])) ∧ Below w.heap.size w w' := Any.binary_BE_Uint16 Tryd.laysBin36 g o n c b0 b1 w hn c0 c1
def Tryd.laysBin37_ren : Go.Shelf.Ren := ⟨fun | 37 => 37 | n => n, fun | 37 => 82 | 22 => 52 | 23 => 80 | 0 => 0 | 5 => 5 | 45 => 53 | n => n, fun | n => n⟩
theorem Tryd.laysBin37 : Go.Proofs.LaysBin.n37 Tryd.prog Tryd.laysBin37_ren := {
  mixed := by kernel_rfl
  f37 := Tryd.func37.trans (congrArg some (by kernel_rfl))
  t0 := Tryd.underlying0
  a0 := Tryd.isAgg0
  z0 := Tryd.sizeOf0
  v0 := Tryd.zeroValue0
  i0 := by kernel_rfl
  t5 := Tryd.underlying5
  a5 := Tryd.isAgg5
  z5 := Tryd.sizeOf5
  v5 := Tryd.zeroValue5
  i5 := by kernel_rfl
  t22 := Tryd.underlying52
  a22 := Tryd.isAgg52
  z22 := Tryd.sizeOf52
  v22 := Tryd.zeroValue52
  i22 := by kernel_rfl
  t23 := Tryd.underlying80
  a23 := Tryd.isAgg80
  z23 := Tryd.sizeOf80
  v23 := Tryd.zeroValue80
  i23 := by kernel_rfl
  t37 := Tryd.underlying82
  a37 := Tryd.isAgg82
  z37 := Tryd.sizeOf82
  v37 := Tryd.zeroValue82
  i37 := by kernel_rfl
  t45 := Tryd.underlying53
  a45 := Tryd.isAgg53
  z45 := Tryd.sizeOf53
  v45 := Tryd.zeroValue53
  i45 := by kernel_rfl }
theorem Tryd.binary_BE_PutUint16 (g o n c v : Nat) (hv : v < 65536) (x0 x1 : Value) (w : World) (hn : 2 ≤ n) (c0 : w.cell? ⟨g, o, none⟩ = some x0) (c1 : w.cell? ⟨g, o + 1, none⟩ = some x1) (f0 : w.frozen? ⟨g, o, none⟩ = false) (f1 : w.frozen? ⟨g, o + 1, none⟩ = false) :
    Calls Tryd.prog 37 #[.agg #[], .slice (some ⟨g, o, none⟩) n c, .int .u16 v] w fun e w' => e = .returned (.tuple #[]) ∧ w' = (w.alloc (.cells #[] 82)).setCells g o (Lib.byteCells (Lib.beBytes 2 v)) := Any.binary_BE_PutUint16 Tryd.laysBin37 g o n c v hv x0 x1 w hn c0 c1 f0 f1
def Tryd.laysBin42_ren : Go.Shelf.Ren := ⟨fun | 42 => 26 | n => n, fun | 37 => 82 | 22 => 52 | 33 => 65 | 0 => 0 | 5 => 5 | 45 => 53 | n => n, fun | n => n⟩
theorem Tryd.laysBin42 : Go.Proofs.LaysBin.n42 Tryd.prog Tryd.laysBin42_ren := {
  mixed := by kernel_rfl
  f42 := Tryd.func26.trans (congrArg some (by kernel_rfl))
  t0 := Tryd.underlying0
  a0 := Tryd.isAgg0
  z0 := Tryd.sizeOf0
  v0 := Tryd.zeroValue0
  i0 := by kernel_rfl
  t5 := Tryd.underlying5
  a5 := Tryd.isAgg5
  z5 := Tryd.sizeOf5
  v5 := Tryd.zeroValue5
  i5 := by kernel_rfl
  t22 := Tryd.underlying52
  a22 := Tryd.isAgg52
  z22 := Tryd.sizeOf52
  v22 := Tryd.zeroValue52
  i22 := by kernel_rfl
  t33 := Tryd.underlying65
  a33 := Tryd.isAgg65
  z33 := Tryd.sizeOf65
  v33 := Tryd.zeroValue65
  i33 := by kernel_rfl
  t37 := Tryd.underlying82
  a37 := Tryd.isAgg82
  z37 := Tryd.sizeOf82
  v37 := Tryd.zeroValue82
  i37 := by kernel_rfl
  t45 := Tryd.underlying53
  a45 := Tryd.isAgg53
  z45 := Tryd.sizeOf53
  v45 := Tryd.zeroValue53
  i45 := by kernel_rfl }
theorem Tryd.binary_BE_Uint64 (g o n c : Nat) (b0 b1 b2 b3 b4 b5 b6 b7 : UInt8) (w : World) (hn : 8 ≤ n) (c0 : w.cell? ⟨g, o, none⟩ = some (.int .u8 b0.toNat)) (c1 : w.cell? ⟨g, o + 1, none⟩ = some (.int .u8 b1.toNat)) (c2 : w.cell? ⟨g, o + 2, none⟩ = some (.int .u8 b2.toNat)) (c3 : w.cell? ⟨g, o + 3, none⟩ = some (.int .u8 b3.toNat)) (c4 : w.cell? ⟨g, o + 4, none⟩ = some (.int .u8 b4.toNat)) (c5 : w.cell? ⟨g, o + 5, none⟩ = some (.int .u8 b5.toNat)) (c6 : w.cell? ⟨g, o + 6, none⟩ = some (.int .u8 b6.toNat)) (c7 : w.cell? ⟨g, o + 7, none⟩ = some (.int .u8 b7.toNat)) :
    Calls Tryd.prog 26 #[.agg #[], .slice (some ⟨g, o, none⟩) n c] w fun e w' => e = .returned (.int .u64 (Lib.beNat [b0, b1, b2, b3, b4, b5, b6, b7])) ∧ Below w.heap.size w w' := Any.binary_BE_Uint64 Tryd.laysBin42 g o n c b0 b1 b2 b3 b4 b5 b6 b7 w hn c0 c1 c2 c3 c4 c5 c6 c7
def Tryd.laysBin43_ren : Go.Shelf.Ren := ⟨fun | 43 => 35 | n => n, fun | 37 => 82 | 22 => 52 | 33 => 65 | 0 => 0 | 5 => 5 | 45 => 53 | n => n, fun | n => n⟩
theorem Tryd.laysBin43 : Go.Proofs.LaysBin.n43 Tryd.prog Tryd.laysBin43_ren := {
  mixed := by kernel_rfl
  f43 := Tryd.func35.trans (congrArg some (by kernel_rfl))
  t0 := Tryd.underlying0
  a0 := Tryd.isAgg0
  z0 := Tryd.sizeOf0
  v0 := Tryd.zeroValue0
  i0 := by kernel_rfl
  t5 := Tryd.underlying5
  a5 := Tryd.isAgg5
  z5 := Tryd.sizeOf5
  v5 := Tryd.zeroValue5
  i5 := by kernel_rfl
  t22 := Tryd.underlying52
  a22 := Tryd.isAgg52
  z22 := Tryd.sizeOf52
  v22 := Tryd.zeroValue52
  i22 := by kernel_rfl
  t33 := Tryd.underlying65
  a33 := Tryd.isAgg65
  z33 := Tryd.sizeOf65
  v33 := Tryd.zeroValue65
  i33 := by kernel_rfl
  t37 := Tryd.underlying82
  a37 := Tryd.isAgg82
  z37 := Tryd.sizeOf82
  v37 := Tryd.zeroValue82
  i37 := by kernel_rfl
  t45 := Tryd.underlying53
  a45 := Tryd.isAgg53
  z45 := Tryd.sizeOf53
  v45 := Tryd.zeroValue53
  i45 := by kernel_rfl }
theorem Tryd.binary_BE_PutUint64 (g o n c v : Nat) (hv : v < 18446744073709551616) (x0 x1 x2 x3 x4 x5 x6 x7 : Value) (w : World) (hn : 8 ≤ n) (c0 : w.cell? ⟨g, o, none⟩ = some x0) (c1 : w.cell? ⟨g, o + 1, none⟩ = some x1) (c2 : w.cell? ⟨g, o + 2, none⟩ = some x2) (c3 : w.cell? ⟨g, o + 3, none⟩ = some x3) (c4 : w.cell? ⟨g, o + 4, none⟩ = some x4) (c5 : w.cell? ⟨g, o + 5, none⟩ = some x5) (c6 : w.cell? ⟨g, o + 6, none⟩ = some x6) (c7 : w.cell? ⟨g, o + 7, none⟩ = some x7) (f0 : w.frozen? ⟨g, o, none⟩ = false) (f1 : w.frozen? ⟨g, o + 1, none⟩ = false) (f2 : w.frozen? ⟨g, o + 2, none⟩ = false) (f3 : w.frozen? ⟨g, o + 3, none⟩ = false) (f4 : w.frozen? ⟨g, o + 4, none⟩ = false) (f5 : w.frozen? ⟨g, o + 5, none⟩ = false) (f6 : w.frozen? ⟨g, o + 6, none⟩ = false) (f7 : w.frozen? ⟨g, o + 7, none⟩ = false) :
    Calls Tryd.prog 35 #[.agg #[], .slice (some ⟨g, o, none⟩) n c, .int .u64 v] w fun e w' => e = .returned (.tuple #[]) ∧ w' = (w.alloc (.cells #[] 82)).setCells g o (Lib.byteCells (Lib.beBytes 8 v)) := Any.binary_BE_PutUint64 Tryd.laysBin43 g o n c v hv x0 x1 x2 x3 x4 x5 x6 x7 w hn c0 c1 c2 c3 c4 c5 c6 c7 f0 f1 f2 f3 f4 f5 f6 f7
def Tryd.lays196_ren : Go.Shelf.Ren := ⟨fun | 196 => 32 | 259 => 36 | n => n, fun | 9 => 9 | 4 => 4 | 3 => 3 | 5 => 5 | 12 => 12 | 119 => 101 | 0 => 0 | 46 => 53 | 139 => 104 | 138 => 103 | 53 => 65 | n => n, fun | 3 => 2 | 4 => 3 | n => n⟩
theorem Tryd.lays196 : Go.Proofs.Lays.n196 Tryd.prog Tryd.lays196_ren := {
  mixed := by kernel_rfl
  f196 := Tryd.func32.trans (congrArg some (by kernel_rfl))
  f259 := Tryd.func36.trans (congrArg some (by kernel_rfl))
  t0 := Tryd.underlying0
  a0 := Tryd.isAgg0
  z0 := Tryd.sizeOf0
  v0 := Tryd.zeroValue0
  t3 := Tryd.underlying3
  a3 := Tryd.isAgg3
  z3 := Tryd.sizeOf3
  v3 := Tryd.zeroValue3
  t4 := Tryd.underlying4
  a4 := Tryd.isAgg4
  z4 := Tryd.sizeOf4
  v4 := Tryd.zeroValue4
  t5 := Tryd.underlying5
  a5 := Tryd.isAgg5
  z5 := Tryd.sizeOf5
  v5 := Tryd.zeroValue5
  t9 := Tryd.underlying9
  a9 := Tryd.isAgg9
  z9 := Tryd.sizeOf9
  v9 := Tryd.zeroValue9
  t12 := Tryd.underlying12
  a12 := Tryd.isAgg12
  z12 := Tryd.sizeOf12
  v12 := Tryd.zeroValue12
  t46 := Tryd.underlying53
  a46 := Tryd.isAgg53
  z46 := Tryd.sizeOf53
  v46 := Tryd.zeroValue53
  t53 := Tryd.underlying65
  a53 := Tryd.isAgg65
  z53 := Tryd.sizeOf65
  v53 := Tryd.zeroValue65
  t119 := Tryd.underlying101
  a119 := Tryd.isAgg101
  z119 := Tryd.sizeOf101
  t138 := Tryd.underlying103
  a138 := Tryd.isAgg103
  z138 := Tryd.sizeOf103
  v138 := Tryd.zeroValue103
  t139 := Tryd.underlying104
  a139 := Tryd.isAgg104
  z139 := Tryd.sizeOf104
  v139 := Tryd.zeroValue104
  g3 := by kernel_rfl
  g4 := by kernel_rfl }
theorem Tryd.utf8_ValidString (s : ByteArray) (w : World) (hs : s.size ≤ 9223372036854775807) (hT : Lib.Utf8Tabs 2 3 w) :
    Calls Tryd.prog 32 #[.string s] w fun e w' => e = .returned (.bool (Lib.validD s.data.toList)) ∧ Below w.heap.size w w' := Any.utf8_ValidString Tryd.lays196 s w hs hT
end Go.Proofs
