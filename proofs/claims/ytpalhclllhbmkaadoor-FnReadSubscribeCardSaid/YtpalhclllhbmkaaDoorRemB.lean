/- The walks of VarInt, RemainingLength, (*mqttReader).reset, readVarInt, ReadVarInt, ReadLength. -/
import Derived.Test.YtpalhclllhbmkaaDoorRemA
import Derived.Lib.SlBytesRow
import Derived.Lib.ConvBytes
import Derived.WalkSmall
import Derived.Laws.BytesArg
namespace Go.Proofs.YtpalhclllhbmkaaDoor
open Go.RowKit

theorem under33 : Tryd.prog.underlying 33 = some (.slice 5) := by kernel_rfl
theorem under5 : Tryd.prog.underlying 5 = some (.int .u8) := by kernel_rfl
theorem under9 : Tryd.prog.underlying 9 = some .string := by kernel_rfl

/-- A slice that owns cells of bytes reads as a string. -/
theorem conv_own {w : World} {B : Nat} {v : Value} (l : List Int) (h : w.ownsRow B 5 1 v (cellsOf l).length (cellsOf l)) :
    (convert 33 9 v).run Tryd.prog w = .ok (.string (strOfNums l)) w := by
  have hl : (cellsOf l).length = l.length := by simp [cellsOf]
  have h0 := h
  rcases h.2 with ⟨rfl, h0'⟩ | ⟨g, cap, cur, rfl, hbg, hg, hnc, hcm, hcs, htk⟩
  · have : l = [] := List.eq_nil_of_length_eq_zero (by omega)
    subst this
    exact run_convert_bytes_nil w 33 5 under33 under5 0 0 9 under9
  · refine run_convert_bytes_arg w 33 5 under33 under5 g 0 _ cap l hl.symm (fun i hi => ?_) 9 under9
    rw [Nat.zero_add]
    have := h0.cellAt i (by omega)
    rw [this]
    have hi' : i < l.length := by omega
    simp [cellsOf, List.getElem?_map, List.getElem?_eq_getElem hi', List.getD]

set_option maxHeartbeats 1000000 in
theorem VarInt_any (n : Nat) (hn : n ≤ 268435455) (w : World) :
    Calls Tryd.prog 22 #[.int .i64 n] w fun e w' => ∃ v, e = .returned v ∧ w'.ownsRow w.heap.size 5 1 v (cellsOf (vb n)).length (cellsOf (vb n)) ∧ Below w.heap.size w w' := by
  have HN : Hid (n ≤ 268435455) := hn
  go_enter Tryd.func22, Tryd.ntmps22
  go_wp2_with fail
  refine (WriteVarInt_any w.heap.size w.heap.size n HN.out _ (LibA.zero_isBuffer (Nat.le_refl _) (lr := 0) (LibA.three_whole ?_)) ?_).mono ?_
  · exact heap_alloc_new w _
  · simp
  rintro e w' ⟨rfl, i1, b1⟩
  have B1 : Hid (Below w.heap.size w w') := ((Below.refl _ _).alloc (Nat.le_refl _) _).trans b1
  clear b1
  have I1 := Lib.hid i1; clear i1
  go_wp2_with fail
  refine (Bytes_any w.heap.size w.heap.size _ w' I1.out).mono ?_
  rintro e w2 ⟨v, rfl, o2, q, rfl⟩
  have O2 := Lib.hid o2; clear o2
  go_wp2_with fail
  go_ret
  exact ⟨v, rfl, O2.out, below_drewN B1.out q⟩

set_option maxHeartbeats 1000000 in
theorem RemainingLength_any (n : Nat) (hn : n ≤ 268435455) (w : World) :
    Calls Tryd.prog 9 #[.int .i64 n] w fun e w' => e = .returned (.string (strOfNums (vb n))) ∧ Below w.heap.size w w' := by
  have HN : Hid (n ≤ 268435455) := hn
  go_enter Tryd.func9, Tryd.ntmps9
  go_wp2_with fail
  refine (VarInt_any n HN.out _).mono ?_
  rintro e w' ⟨v, rfl, o2, b2⟩
  have hc := conv_own (vb n) o2
  clear o2
  have B2 := Lib.hid b2; clear b2
  go_wp2_with fail
  go_ret
  exact ⟨rfl, B2.out⟩
end Go.Proofs.YtpalhclllhbmkaaDoor
