/- A builder's text. -/
import Derived.Test.YtpiceaehfpljnaaDoorMpE
import Derived.Test.YtpiceaehfpljnaaDoorShelf
namespace Go.Proofs.YtpiceaehfpljnaaDoor
open Go.RowKit Go.Shelf Mp
attribute [local go_sem ↓] Go.wp_at_zero Go.wp_at_succ
set_option linter.unusedVariables false
set_option linter.unusedSimpArgs false
set_option maxRecDepth 100000
set_option maxHeartbeats 4000000

abbrev Bdr (B b : Nat) (l : List UInt8) (w : World) : Prop := Lib.IsBuilder 98 5 B b (Lib.byteCells l) w
theorem wstr (B b : Nat) (l : List UInt8) (s : ByteArray) (w : World) (h : Bdr B b l w) (hlen : l.length + s.size ≤ 140737488355328) (hBw : B ≤ w.heap.size) :
    Calls Tryd.prog 50 #[.pointer (some ⟨b, 0, none⟩), .string s] w fun e w' => e = .returned (.tuple #[.int .i64 s.size, .nilIface]) ∧ Bdr B b (l ++ s.data.toList) w' ∧ Below B w w' := by
  have L : Lays.n166 Tryd.prog Tryd.lays156_ren := { Tryd.lays156 with }
  refine (Any.Builder_WriteString L Tryd.Builder_Extra_156 B b (Lib.byteCells l) s w h (by simpa [Lib.byteCells] using hlen) hBw).mono ?_
  rintro e w' ⟨rfl, h1, h2⟩
  refine ⟨rfl, Or.inr ?_, h2⟩
  have e : Lib.byteCells (l ++ s.data.toList) = Lib.byteCells l ++ Lib.strCells s := by simp [Lib.byteCells, Lib.strCells]
  rw [e]
  exact h1
def ren167 : Go.Shelf.Ren := ⟨fun n => if n = 167 then 53 else Tryd.lays156_ren.f n, Tryd.lays156_ren.t, Tryd.lays156_ren.g⟩
theorem lay167 : Lays.n167 Tryd.prog ren167 := {
  f167 := Tryd.func53.trans (congrArg some (by kernel_rfl))
  mixed := Tryd.lays156.mixed
  f240 := Tryd.lays156.f240
  f276 := Tryd.lays156.f276
  t0 := Tryd.lays156.t0
  a0 := Tryd.lays156.a0
  z0 := Tryd.lays156.z0
  v0 := Tryd.lays156.v0
  t4 := Tryd.lays156.t4
  a4 := Tryd.lays156.a4
  z4 := Tryd.lays156.z4
  v4 := Tryd.lays156.v4
  t5 := Tryd.underlying5
  a5 := Tryd.isAgg5
  z5 := Tryd.sizeOf5
  v5 := Tryd.zeroValue5
  t9 := Tryd.lays156.t9
  a9 := Tryd.lays156.a9
  z9 := Tryd.lays156.z9
  v9 := Tryd.lays156.v9
  t20 := Tryd.lays156.t20
  a20 := Tryd.lays156.a20
  z20 := Tryd.lays156.z20
  v20 := Tryd.lays156.v20
  t37 := Tryd.lays156.t37
  a37 := Tryd.lays156.a37
  z37 := Tryd.lays156.z37
  v37 := Tryd.lays156.v37
  t70 := Tryd.lays156.t70
  a70 := Tryd.lays156.a70
  z70 := Tryd.lays156.z70
  v70 := Tryd.lays156.v70
  t72 := Tryd.lays156.t72
  a72 := Tryd.lays156.a72
  z72 := Tryd.lays156.z72
  v72 := Tryd.lays156.v72
  t75 := Tryd.lays156.t75
  a75 := Tryd.lays156.a75
  z75 := Tryd.lays156.z75
  v75 := Tryd.lays156.v75
  t164 := Tryd.lays156.t164
  a164 := Tryd.lays156.a164
  z164 := Tryd.lays156.z164
  v164 := Tryd.lays156.v164 }
theorem ext167 : Builder.Extra Tryd.prog ren167 := {
  sizeBuilder := Tryd.Builder_Extra_156.sizeBuilder
  liesBuilder := Tryd.Builder_Extra_156.liesBuilder
  t5 := Tryd.underlying5
  a5 := Tryd.isAgg5
  z5 := Tryd.sizeOf5
  v5 := Tryd.zeroValue5
  infoByte := Tryd.Builder_Extra_156.infoByte
  cellsByte := Tryd.Builder_Extra_156.cellsByte
  sizeByte := Tryd.Builder_Extra_156.sizeByte
  neB5 := Tryd.Builder_Extra_156.neB5 }
theorem wbyt (B b : Nat) (l : List UInt8) (c : UInt8) (w : World) (h : Bdr B b l w) (hlen : l.length + 1 ≤ 140737488355328) (hBw : B ≤ w.heap.size) :
    Calls Tryd.prog 53 #[.pointer (some ⟨b, 0, none⟩), .int .u8 c.toNat] w fun e w' => e = .returned .nilIface ∧ Bdr B b (l ++ [c]) w' ∧ Below B w w' := by
  refine (Any.Builder_WriteByte lay167 ext167 B b (Lib.byteCells l) c.toNat w h (by simpa [Lib.byteCells] using hlen) hBw).mono ?_
  rintro e w' ⟨rfl, h1, h2⟩
  refine ⟨rfl, Or.inr ?_, h2⟩
  have e : Lib.byteCells (l ++ [c]) = Lib.byteCells l ++ [.int .u8 c.toNat] := by simp [Lib.byteCells]
  rw [e]
  exact h1
theorem btxt (B b : Nat) (l : List UInt8) (w : World) (h : Bdr B b l w) (hBw : B ≤ w.heap.size) :
    Calls Tryd.prog 54 #[.pointer (some ⟨b, 0, none⟩)] w fun e w' => e = .returned (.string (strOf l)) ∧ Below B w w' := Tryd.Builder_String_any B b l w h hBw
end Go.Proofs.YtpiceaehfpljnaaDoor
