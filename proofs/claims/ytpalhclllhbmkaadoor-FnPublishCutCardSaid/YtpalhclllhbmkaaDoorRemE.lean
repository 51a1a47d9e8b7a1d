/- The walks of the reference's RemainingKnown and RemainingLength. -/
import Derived.Test.YtpalhclllhbmkaaDoorRemD
import Derived.OwnWalk
namespace Go.Proofs.YtpalhclllhbmkaaDoor
open Go.RowKit

theorem Known_yes (n : Nat) (h : n ≤ 268435455) (w : World) : Calls Tryd.prog 8 #[.int .i64 n] w fun e w' => e = .returned (.bool true) ∧ w = w' := by
  have hd : decide ((n : Int) ≤ 268435455) = true := decide_eq_true (by omega)
  go_enter Tryd.func8, Tryd.ntmps8
  go_wp2
  go_ret
  exact ⟨rfl, rfl⟩
theorem Known_no (n : Int) (h : n < 0 ∨ 268435455 < n) (w : World) : Calls Tryd.prog 8 #[.int .i64 n] w fun e w' => e = .returned (.bool false) ∧ w = w' := by
  rcases h with h | h
  · go_enter Tryd.func8, Tryd.ntmps8
    go_wp2
    go_ret
    exact ⟨rfl, rfl⟩
  · have h0 : 0 ≤ n := by omega
    have h1 : decide (n ≤ 268435455) = false := decide_eq_false (by omega)
    go_enter Tryd.func8, Tryd.ntmps8
    go_wp2
    go_ret
    exact ⟨rfl, rfl⟩

theorem conv_lit1 (W : World) (x : Int) : (convert 33 9 (.slice (some ⟨W.heap.size, 0, none⟩) 1 1)).run Tryd.prog (W.alloc (.cells #[.int .u8 x] 5)) = .ok (.string (strOfNums [x])) (W.alloc (.cells #[.int .u8 x] 5)) :=
  run_convert_bytes_arg _ 33 5 under33 under5 W.heap.size 0 1 1 [x] rfl (fun i hi => by
    obtain rfl : i = 0 := by omega
    rw [Lib.cell_of_heap (heap_alloc_new W _)]; rfl) 9 under9
theorem strOfNums_append (a b : List Int) : strOfNums a ++ strOfNums b = strOfNums (a ++ b) := by
  apply ByteArray.ext
  simp [strOfNums]

set_option maxHeartbeats 2000000 in
set_option maxRecDepth 100000 in
theorem SpecLength_any (n : Nat) (hn : n ≤ 268435455) (w : World) :
    Calls Tryd.prog 11 #[.int .i64 n] w fun e w' => e = .returned (.string (strOfNums (vb n))) ∧ Below w.heap.size w w' := by
  have HN : Hid (n ≤ 268435455) := hn
  clear hn
  go_enter Tryd.func11, Tryd.ntmps11
  go_wp2_with fail
  go_loopg [0, 3] n (fun gk v s w' => ∃ done : List Int, v = .int .i64 gk ∧ gk ≤ 268435455 ∧ s = .string (strOfNums done) ∧ Hid (Below w.heap.size w w') ∧ Hid (done ++ vb gk = vb n))
  case atStart => exact ⟨[], rfl, HN.out, rfl, Below.refl _ _, rfl⟩
  case round =>
    obtain ⟨done, rfl, hk, rfl, hw, hd⟩ := hrel
    have sz : (strOfNums done).size ≤ 4 := by
      have h1 := vb_len n HN.out
      rw [← hd.out, List.length_append] at h1
      rw [strOfNums_size]; omega
    have sz1 : ∀ x, (strOfNums [x]).size = 1 := fun x => strOfNums_size _
    have cl := conv_lit1
    by_cases h1 : gk < 128
    · have e0 : (gk : Int) / 128 = 0 := by omega
      have e1 : (gk : Int) % 128 = gk := by omega
      go_wp2_with fail
      go_ret
      refine ⟨?_, (hw.out.alloc (hw.out.size) _)⟩
      rw [strOfNums_append, ← vb_small h1, hd.out]
      rfl
    · go_wp2_with fail
      go_roundg (gk / 128)
      case measure => omega
      case rel => exact ⟨done ++ [((gk % 128 + 128 : Nat) : Int)], by simp, by omega, by rw [← strOfNums_append]; simp, hw.out.alloc (hw.out.size) _, by rw [List.append_assoc, List.singleton_append, ← vb_big h1]; exact hd.out⟩
end Go.Proofs.YtpalhclllhbmkaaDoor
