/- The walks of ReadVarInt and ReadLength. -/
import Derived.Test.YtpalhclllhbmkaaDoorRemC
import Derived.Lib.SmallJoins
namespace Go.Proofs.YtpalhclllhbmkaaDoor
open Go.RowKit

set_option maxHeartbeats 2000000 in
theorem ReadVarInt_any (g cap n : Nat) (s : ByteArray) (hn : n ≤ 268435455) (hs : s.size ≤ 4611686018427387904) (w : World) (hb : Lib.Bytes w g 0 s) (hg : g < w.heap.size) (hf : From s 0 (vb n)) :
    Calls Tryd.prog 23 #[.slice (some ⟨g, 0, none⟩) s.size cap] w fun e w' => e = .returned (.tuple #[.int .i64 n, .int .i64 ((vb n).length : Nat), .bool true, .nilIface]) ∧ Below w.heap.size w w' := by
  have HN : Hid (n ≤ 268435455) := hn
  have HB := Lib.hid hb
  have HF := Lib.hid hf
  have HS := Lib.hid hs
  have HG := Lib.hid hg
  clear hb hf hn hs hg
  go_enter Tryd.func23, Tryd.ntmps23
  go_wp2_with fail
  refine (reset_any w.heap.size g cap s _ ?_).mono ?_
  · exact heap_alloc_new w _
  rintro e w1 ⟨rfl, ho, hblk⟩
  have HO := Lib.hid ho; clear ho
  have HBLK := Lib.hid hblk; clear hblk
  go_wp2_with fail
  have hne : g ≠ w.heap.size := by have := HG.out; omega
  have hR : Rd w1 w.heap.size g 0 cap 0 s := ⟨HBLK.out, Bytes_only HO.out hne (fun i hi => by
      rw [← HB.out i hi]; exact World.cell?_of_block (Below.heap_alloc w _ g HG.out)), hne, Nat.zero_le _, HS.out⟩
  refine (readVarInt_any w.heap.size g 0 cap 0 n s HN.out w1 hR HF.out).mono ?_
  clear hne hR
  rintro e w2 ⟨rfl, ho2, hR2⟩
  have c1 : w2.cell? ⟨w.heap.size, 1, none⟩ = some (.int .i64 ((vb n).length : Nat)) := by rw [Lib.cell_of_heap hR2.blk]; simp
  have BE : Hid (Below w.heap.size w w2) := ((Below.refl _ _).alloc (Nat.le_refl _) _).trans ((HO.out.below (Nat.le_refl _)).trans (ho2.below (Nat.le_refl _)))
  clear hR2 ho2
  go_wp2_with fail
  go_quiet (fail)
  go_wp2_with fail
  refine bodyPost_ret (v := .tuple #[.int .i64 n, .int .i64 ((vb n).length : Nat), .bool true, .nilIface]) (by simp [results, Tryd.results23, go_sem]) rfl ⟨rfl, below_drewN BE.out _⟩

theorem bytes_of_conv (w : World) (s : ByteArray) : Lib.Bytes (Lib.bytesWorld w 5 s) w.heap.size 0 s := by
  intro i hi
  rw [Nat.zero_add, Lib.bytesWorld_cell w 5 s i hi]
  have : s.data.toList.getD i 0 = s[i] := by
    simp [List.getD, hi]
    rfl
  rw [this]

theorem conv_str (w : World) (s : ByteArray) : (convert 9 33 (.string s)).run Tryd.prog w = .ok (.slice (some ⟨w.heap.size, 0, none⟩) s.size (grownCap w s.size 0 5)) (Lib.bytesWorld w 5 s) :=
  Lib.run_convert_string_bytes w 9 33 5 s under9 under33 under5

theorem empty_append (s : ByteArray) : ({ data := #[] } : ByteArray) ++ s = s := ByteArray.ext (by simp)

set_option maxHeartbeats 2000000 in
theorem ReadLength_any (g cap n : Nat) (s : ByteArray) (hn : n ≤ 268435455) (hs : s.size ≤ 4611686018427387904) (w : World) (hc : w.cell? ⟨g, 0, none⟩ = some (.string s)) (hf : From s 0 (vb n)) :
    Calls Tryd.prog 10 #[.slice (some ⟨g, 0, none⟩) 1 cap] w fun e w' => e = .returned (.tuple #[.int .i64 n, .int .i64 ((vb n).length : Nat), .bool true]) ∧ Below w.heap.size w w' := by
  have HN : Hid (n ≤ 268435455) := hn
  have HF := Lib.hid hf
  have HS := Lib.hid hs
  clear hf hn
  have cv := conv_str
  go_enter Tryd.func10, Tryd.ntmps10
  go_wp2_with fail
  refine wp_loop_rounds 1 ?_; rw [rounds_succ]
  go_wp2_with fail
  rw [empty_append]
  refine (ReadVarInt_any _ _ n s HN.out HS.out _ (bytes_of_conv w s) ?_ HF.out).mono ?_
  · rw [Lib.bytesWorld_size]; omega
  rintro e w2 ⟨rfl, hb2⟩
  have BE : Hid (Below w.heap.size w w2) := (Joins.below_bytesWorld w.heap.size w 5 s (Nat.le_refl _)).trans (hb2.mono (by rw [Lib.bytesWorld_size]; omega))
  clear hb2
  go_wp2_with fail
  go_ret3
  exact ⟨rfl, BE.out⟩
end Go.Proofs.YtpalhclllhbmkaaDoor
