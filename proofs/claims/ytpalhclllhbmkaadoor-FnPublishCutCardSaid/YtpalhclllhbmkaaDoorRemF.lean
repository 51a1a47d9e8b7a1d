/- The law FnRemaining: the walk. -/
import Derived.Test.YtpalhclllhbmkaaDoorRemE
namespace Go.Proofs.YtpalhclllhbmkaaDoor
open Go.RowKit

theorem law_big (n : Int) (more : ByteArray) (w : World) (h : 2147483647 < more.size) :
    Calls Tryd.prog 3 #[.int .i64 n, .string more] w fun e w' => e = .returned (.bool true) ∧ w = w' := by
  go_enter Tryd.func3, Tryd.ntmps3
  go_wp2_with fail
  go_ret
  exact ⟨rfl, rfl⟩

theorem law_unknown (n : Int) (hn : n < 0 ∨ 268435455 < n) (more : ByteArray) (w : World) (h : more.size ≤ 2147483647) :
    Calls Tryd.prog 3 #[.int .i64 n, .string more] w fun e w' => e = .returned (.bool true) ∧ w = w' := by
  have HN := Lib.hid hn
  clear hn
  go_enter Tryd.func3, Tryd.ntmps3
  go_wp2_with fail
  refine (Known_no n HN.out w).mono ?_
  rintro e w' ⟨rfl, rfl⟩
  go_wp2_with fail
  go_ret
  exact ⟨rfl, rfl⟩

theorem law_long (n : Nat) (hn : n ≤ 268435455) (more : ByteArray) (w : World) (h : more.size ≤ 2147483647) (h2 : 20 < more.size) :
    Calls Tryd.prog 3 #[.int .i64 n, .string more] w fun e w' => e = .returned (.bool true) ∧ w = w' := by
  have HN := Lib.hid hn
  clear hn
  go_enter Tryd.func3, Tryd.ntmps3
  go_wp2_with fail
  refine (Known_yes n HN.out w).mono ?_
  rintro e w' ⟨rfl, rfl⟩
  go_wp2_with fail
  go_ret
  exact ⟨rfl, rfl⟩

theorem strOfNums_get (l : List Int) (i : Nat) (h : i < l.length) (h' : i < (strOfNums l).size) (h0 : 0 ≤ l[i] ∧ l[i] < 256) : ((strOfNums l)[i].toNat : Int) = l[i] := by
  have e : (strOfNums l)[i] = UInt8.ofNat l[i].toNat := by simp [strOfNums, ByteArray.getElem_eq_getElem_data]
  rw [e]
  simp
  omega
theorem from_str (l : List Int) (hl : ∀ x ∈ l, 0 ≤ x ∧ x < 256) (more : ByteArray) : From (strOfNums l ++ more) 0 l := by
  refine ⟨by rw [ByteArray.size_append, strOfNums_size]; omega, fun i hi hs => ?_⟩
  have h' : i < (strOfNums l).size := by rw [strOfNums_size]; exact hi
  simp only [Nat.zero_add]
  rw [ByteArray.getElem_append_left h']
  exact strOfNums_get l i hi h' (hl _ (List.getElem_mem hi))
theorem vb_bytes (n : Nat) : ∀ x ∈ vb n, 0 ≤ x ∧ x < 256 := by
  induction n using Nat.strongRecOn with
  | ind n ih =>
    by_cases a : n < 128
    · rw [vb_small a]; simp; omega
    · rw [vb_big a]
      intro x hx
      rcases List.mem_cons.1 hx with rfl | hx
      · omega
      · exact ih _ (by omega) x hx

set_option maxHeartbeats 2000000 in
theorem law_main (n : Nat) (hn : n ≤ 268435455) (more : ByteArray) (w : World) (h : more.size ≤ 20) :
    Calls Tryd.prog 3 #[.int .i64 n, .string more] w fun e w' => e = .returned (.bool true) ∧ Below w.heap.size w w' := by
  have HN := Lib.hid hn
  clear hn
  go_enter Tryd.func3, Tryd.ntmps3
  go_wp2_with fail
  refine (Known_yes n HN.out w).mono ?_
  rintro e w' ⟨rfl, rfl⟩
  go_wp2_with fail
  refine (RemainingLength_any n HN.out _).mono ?_
  rintro e w1 ⟨rfl, hb1⟩
  have B1 := Lib.hid hb1; clear hb1
  have sz : (strOfNums (vb n)).size ≤ 4 := by rw [strOfNums_size]; exact vb_len n HN.out
  go_wp2_with fail
  refine (ReadLength_any w1.heap.size 1 n (strOfNums (vb n) ++ more) HN.out (by rw [ByteArray.size_append]; omega) _ (by rw [Lib.cell_of_heap (heap_alloc_new w1 _)]; rfl) (from_str _ (vb_bytes n) more)).mono ?_
  rintro e w2 ⟨rfl, hb2⟩
  have B2 : Hid (Below w.heap.size w w2) := (B1.out.alloc B1.out.size _).trans (hb2.mono (by have := B1.out.size; simp; omega))
  clear hb2
  go_wp2_with fail
  refine (SpecLength_any n HN.out _).mono ?_
  rintro e w3 ⟨rfl, hb3⟩
  have B3 : Hid (Below w.heap.size w w3) := B2.out.trans (hb3.mono B2.out.size)
  clear hb3
  have sl : ((vb n).length : Int) = ((strOfNums (vb n)).size : Int) := by rw [strOfNums_size]
  go_wp2_with fail
  go_ret
  exact ⟨rfl, B3.out⟩
end Go.Proofs.YtpalhclllhbmkaaDoor
