/- Contracts of the library (bytes.Buffer), laid at this program by the shelf's plain mode. -/
import Derived.Shelf.Strings.Builder1
import Derived.Shelf.Strings.Builder2
import Derived.Shelf.Strings.OnBuilder
import Derived.Shelf.Small.Strs
import Derived.Test.YtpiceaehfpljnaaDoorProg
namespace Go.Proofs
open Go.Shelf Go.RowKit
def Tryd.lays169_ren : Go.Shelf.Ren := ⟨fun | 169 => 54 | n => n, fun | 70 => 96 | 9 => 9 | 0 => 0 | 72 => 98 | 37 => 45 | 127 => 116 | 3 => 3 | 5 => 5 | n => n, fun | n => n⟩
theorem Tryd.lays169 : Go.Proofs.Lays.n169 Tryd.prog Tryd.lays169_ren := {
  mixed := by kernel_rfl
  f169 := Tryd.func54.trans (congrArg some (by kernel_rfl))
  t0 := Tryd.underlying0
  a0 := Tryd.isAgg0
  z0 := Tryd.sizeOf0
  v0 := Tryd.zeroValue0
  t3 := Tryd.underlying3
  a3 := Tryd.isAgg3
  z3 := Tryd.sizeOf3
  v3 := Tryd.zeroValue3
  t9 := Tryd.underlying9
  a9 := Tryd.isAgg9
  z9 := Tryd.sizeOf9
  v9 := Tryd.zeroValue9
  t37 := Tryd.underlying45
  a37 := Tryd.isAgg45
  z37 := Tryd.sizeOf45
  v37 := Tryd.zeroValue45
  t70 := Tryd.underlying96
  a70 := Tryd.isAgg96
  z70 := Tryd.sizeOf96
  v70 := Tryd.zeroValue96
  t72 := Tryd.underlying98
  a72 := Tryd.isAgg98
  z72 := Tryd.sizeOf98
  v72 := Tryd.zeroValue98
  t127 := Tryd.underlying116
  a127 := Tryd.isAgg116
  z127 := Tryd.sizeOf116
  v127 := Tryd.zeroValue116 }
theorem Tryd.Builder_Extra_169 : Builder.Extra Tryd.prog Tryd.lays169_ren := {
  sizeBuilder := by kernel_rfl
  liesBuilder := by kernel_rfl
  t5 := Tryd.underlying5
  a5 := Tryd.isAgg5
  z5 := Tryd.sizeOf5
  v5 := Tryd.zeroValue5
  infoByte := by kernel_rfl
  cellsByte := by kernel_rfl
  sizeByte := by kernel_rfl
  neB5 := by decide }
theorem Tryd.Builder_String_any (B b : Nat) (l : List UInt8) (w : World) (h : Lib.IsBuilder 98 5 B b (Lib.byteCells l) w) (hBw : B ≤ w.heap.size) :
    Calls Tryd.prog 54 #[.pointer (some ⟨b, 0, none⟩)] w fun e w' => e = .returned (.string ⟨l.toArray⟩) ∧ Below B w w' := Any.Builder_String_any Tryd.lays169 Tryd.Builder_Extra_169 B b l w h hBw
def Tryd.lays106_ren : Go.Shelf.Ren := ⟨fun | 106 => 65 | 213 => 77 | 265 => 84 | n => n, fun | 9 => 9 | 3 => 3 | n => n, fun | n => n⟩
theorem Tryd.lays106 : Go.Proofs.Lays.n106 Tryd.prog Tryd.lays106_ren := {
  mixed := by kernel_rfl
  f106 := Tryd.func65.trans (congrArg some (by kernel_rfl))
  f213 := Tryd.func77.trans (congrArg some (by kernel_rfl))
  f265 := Tryd.func84.trans (congrArg some (by kernel_rfl))
  t3 := Tryd.underlying3
  a3 := Tryd.isAgg3
  z3 := Tryd.sizeOf3
  v3 := Tryd.zeroValue3
  t9 := Tryd.underlying9
  a9 := Tryd.isAgg9
  z9 := Tryd.sizeOf9
  v9 := Tryd.zeroValue9 }
theorem Tryd.strings_Compare (a b : ByteArray) (w : World) :
    Calls Tryd.prog 65 #[.string a, .string b] w fun e w' => e = .returned (.int .i64 (Lib.compareBytes a.data.toList b.data.toList)) ∧ w' = w := Any.strings_Compare Tryd.lays106 a b w
def Tryd.lays156_ren : Go.Shelf.Ren := ⟨fun | 156 => 51 | 165 => 67 | 166 => 50 | 169 => 54 | 240 => 66 | 241 => 79 | 276 => 78 | 277 => 85 | n => n, fun | 31 => 23 | 9 => 9 | 3 => 3 | 4 => 4 | 0 => 0 | 20 => 20 | 72 => 98 | 76 => 99 | 70 => 96 | 37 => 45 | 75 => 48 | 127 => 116 | 164 => 124 | 5 => 5 | 80 => 64 | n => n, fun | n => n⟩
theorem Tryd.lays156 : Go.Proofs.Lays.n156 Tryd.prog Tryd.lays156_ren := {
  mixed := by kernel_rfl
  f156 := Tryd.func51.trans (congrArg some (by kernel_rfl))
  f165 := Tryd.func67.trans (congrArg some (by kernel_rfl))
  f166 := Tryd.func50.trans (congrArg some (by kernel_rfl))
  f169 := Tryd.func54.trans (congrArg some (by kernel_rfl))
  f240 := Tryd.func66.trans (congrArg some (by kernel_rfl))
  f241 := Tryd.func79.trans (congrArg some (by kernel_rfl))
  f276 := Tryd.func78.trans (congrArg some (by kernel_rfl))
  f277 := Tryd.func85.trans (congrArg some (by kernel_rfl))
  t0 := Tryd.underlying0
  a0 := Tryd.isAgg0
  z0 := Tryd.sizeOf0
  v0 := Tryd.zeroValue0
  t3 := Tryd.underlying3
  a3 := Tryd.isAgg3
  z3 := Tryd.sizeOf3
  v3 := Tryd.zeroValue3
  t4 := Tryd.underlying4
  a4 := Tryd.isAgg4
  z4 := Tryd.sizeOf4
  v4 := Tryd.zeroValue4
  t9 := Tryd.underlying9
  a9 := Tryd.isAgg9
  z9 := Tryd.sizeOf9
  v9 := Tryd.zeroValue9
  t20 := Tryd.underlying20
  a20 := Tryd.isAgg20
  z20 := Tryd.sizeOf20
  v20 := Tryd.zeroValue20
  t31 := Tryd.underlying23
  a31 := Tryd.isAgg23
  z31 := Tryd.sizeOf23
  v31 := Tryd.zeroValue23
  t37 := Tryd.underlying45
  a37 := Tryd.isAgg45
  z37 := Tryd.sizeOf45
  v37 := Tryd.zeroValue45
  t70 := Tryd.underlying96
  a70 := Tryd.isAgg96
  z70 := Tryd.sizeOf96
  v70 := Tryd.zeroValue96
  t72 := Tryd.underlying98
  a72 := Tryd.isAgg98
  z72 := Tryd.sizeOf98
  v72 := Tryd.zeroValue98
  t75 := Tryd.underlying48
  a75 := Tryd.isAgg48
  z75 := Tryd.sizeOf48
  v75 := Tryd.zeroValue48
  t76 := Tryd.underlying99
  a76 := Tryd.isAgg99
  z76 := Tryd.sizeOf99
  v76 := Tryd.zeroValue99
  t127 := Tryd.underlying116
  a127 := Tryd.isAgg116
  z127 := Tryd.sizeOf116
  v127 := Tryd.zeroValue116
  t164 := Tryd.underlying124
  a164 := Tryd.isAgg124
  z164 := Tryd.sizeOf124
  v164 := Tryd.zeroValue124 }
theorem Tryd.Builder_Extra_156 : Builder.Extra Tryd.prog Tryd.lays156_ren := {
  sizeBuilder := by kernel_rfl
  liesBuilder := by kernel_rfl
  t5 := Tryd.underlying5
  a5 := Tryd.isAgg5
  z5 := Tryd.sizeOf5
  v5 := Tryd.zeroValue5
  infoByte := by kernel_rfl
  cellsByte := by kernel_rfl
  sizeByte := by kernel_rfl
  neB5 := by decide }
theorem Tryd.strings_Join (bk o c : Nat) (xs : List ByteArray) (sep : ByteArray) (w : World) (hcells : ∀ (j : Nat) x, xs[j]? = some x → w.cell? ⟨bk, o + j, none⟩ = some (.string x)) (hbk : bk < w.heap.size) (hN : xs.length ≤ 140737488355328) (hcap : xs.length ≤ c) (hlen : (Lib.join (xs.map (·.data.toList)) sep.data.toList).length ≤ 140737488355328) :
    Calls Tryd.prog 51 #[.slice (some ⟨bk, o, none⟩) xs.length c, .string sep] w fun e w' => e = .returned (.string ⟨(Lib.join (xs.map (·.data.toList)) sep.data.toList).toArray⟩) ∧ Below w.heap.size w w' := Any.strings_Join Tryd.lays156 Tryd.Builder_Extra_156 bk o c xs sep w hcells hbk hN hcap hlen
theorem Tryd.strings_Join_none (a : Option Addr) (c : Nat) (sep : ByteArray) (w : World) :
    Calls Tryd.prog 51 #[.slice a 0 c, .string sep] w fun e w' => e = .returned (.string ⟨#[]⟩) ∧ w' = w := Any.strings_Join_none Tryd.lays156 Tryd.Builder_Extra_156 a c sep w
end Go.Proofs
