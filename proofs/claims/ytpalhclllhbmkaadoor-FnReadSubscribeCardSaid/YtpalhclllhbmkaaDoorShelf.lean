/- A contract of the library (Buffer.WriteByte, the buffer a field), laid at this program by the shelf's plain mode. -/
import Derived.Shelf.LaysM
import Derived.Shelf.Bytes.WriteByteAt
import Derived.Test.YtpalhclllhbmkaaDoorProg
namespace Go.Proofs
open Go.Shelf
def Tryd.laysM179_ren : Go.Shelf.Ren := ⟨fun | 179 => 34 | 251 => 44 | 252 => 45 | 181 => 51 | 184 => 52 | 290 => 53 | 324 => 57 | n => n, fun | 130 => 102 | 5 => 5 | 75 => 49 | 0 => 0 | 93 => 68 | 91 => 66 | 3 => 3 | 131 => 114 | 4 => 4 | 37 => 33 | 20 => 20 | 80 => 135 | 9 => 9 | n => n, fun | 14 => 6 | n => n⟩
theorem Tryd.laysM179 : Go.Proofs.LaysM.n179 Tryd.prog Tryd.laysM179_ren := {
  mixed := by kernel_rfl
  f179 := Tryd.func34.trans (congrArg some (by kernel_rfl))
  f181 := Tryd.func51.trans (congrArg some (by kernel_rfl))
  f184 := Tryd.func52.trans (congrArg some (by kernel_rfl))
  f251 := Tryd.func44.trans (congrArg some (by kernel_rfl))
  f252 := Tryd.func45.trans (congrArg some (by kernel_rfl))
  f290 := Tryd.func53.trans (congrArg some (by kernel_rfl))
  f324 := Tryd.func57.trans (congrArg some (by kernel_rfl))
  t0 := Tryd.underlying0
  a0 := Tryd.isAgg0
  z0 := Tryd.sizeOf0
  v0 := Tryd.zeroValue0
  t3 := Tryd.underlying3
  a3 := Tryd.isAgg3
  z3 := Tryd.sizeOf3
  v3 := Tryd.zeroValue3
  t4 := Tryd.underlying4
  a4 := Tryd.isAgg4
  z4 := Tryd.sizeOf4
  v4 := Tryd.zeroValue4
  t5 := Tryd.underlying5
  a5 := Tryd.isAgg5
  z5 := Tryd.sizeOf5
  v5 := Tryd.zeroValue5
  t20 := Tryd.underlying20
  a20 := Tryd.isAgg20
  z20 := Tryd.sizeOf20
  v20 := Tryd.zeroValue20
  t37 := Tryd.underlying33
  a37 := Tryd.isAgg33
  z37 := Tryd.sizeOf33
  v37 := Tryd.zeroValue33
  t75 := Tryd.underlying49
  a75 := Tryd.isAgg49
  z75 := Tryd.sizeOf49
  v75 := Tryd.zeroValue49
  t91 := Tryd.underlying66
  a91 := Tryd.isAgg66
  z91 := Tryd.sizeOf66
  v91 := Tryd.zeroValue66
  t93 := Tryd.underlying68
  a93 := Tryd.isAgg68
  z93 := Tryd.sizeOf68
  v93 := Tryd.zeroValue68
  t130 := Tryd.underlying102
  a130 := Tryd.isAgg102
  z130 := Tryd.sizeOf102
  v130 := Tryd.zeroValue102
  t131 := Tryd.underlying114
  a131 := Tryd.isAgg114
  z131 := Tryd.sizeOf114
  v131 := Tryd.zeroValue114
  g14 := by kernel_rfl
  t9 := Tryd.underlying9
  a9 := Tryd.isAgg9
  z9 := Tryd.sizeOf9
  v9 := Tryd.zeroValue9
  t80 := Tryd.underlying135
  a80 := Tryd.isAgg135
  z80 := Tryd.sizeOf135
  v80 := Tryd.zeroValue135
  i0 := by kernel_rfl
  i3 := by kernel_rfl
  i4 := by kernel_rfl
  i5 := by kernel_rfl
  i9 := by kernel_rfl
  i20 := by kernel_rfl
  i37 := by kernel_rfl
  i75 := by kernel_rfl
  i80 := by kernel_rfl
  i91 := by kernel_rfl
  i93 := by kernel_rfl
  i130 := by kernel_rfl
  i131 := by kernel_rfl
  m14 := by kernel_rfl }
open Go.RowKit in
theorem Tryd.Buffer_WriteByte_at (T : TypeId) (R : Nat → Option Value) (B b q : Nat) (bs : List Value) (c : Int) (w : World) (h : LibA.IsBuffer T R 5 B b q bs w) (hBw : B ≤ w.heap.size) (h1 : ∀ v ∈ bs, v.oneCell' = true) (hlim : bs.length + 1 ≤ 140737488355328) :
    Calls Tryd.prog 34 #[.pointer (some ⟨b, q, none⟩), .int .u8 c] w fun e w' => e = .returned .nilIface ∧ LibA.IsBuffer T R 5 B b q (bs ++ [.int .u8 c]) w' ∧ Below B w w' ∧ Lib.OthersKept 5 (some b) w w' := Any.Buffer_WriteByte_at Tryd.laysM179 T R B b q bs c w h hBw h1 hlim
end Go.Proofs
