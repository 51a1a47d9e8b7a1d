/- The walks of the remaining length's functions (MQTT): WriteVarInt, VarInt, RemainingLength. -/
import Derived.Test.YtpalhclllhbmkaaDoorShelf
import Derived.Test.YtpalhclllhbmkaaDoorProg
import Derived.WalkKit
import Derived.BigCall
import Derived.Lib.BufferAt
import Derived.Lib.Hide
import Derived.Lib.Strings
import Derived.BigQuiet
import Derived.Deep.QuietTactic
import Derived.Deep.LoopGhost
import Derived.Laws.BytesArg
import Derived.WideLaws
import Derived.OwnWalk
import Derived.KernelRfl
import Derived.Test.YtpalhclllhbmkaaDoorBits
namespace Go.Proofs.YtpalhclllhbmkaaDoor
open Go.RowKit

/-- The bytes of a remaining length. -/
def vb (n : Nat) : List Int := if n < 128 then [(n : Int)] else ((n % 128 + 128 : Nat) : Int) :: vb (n / 128)
termination_by n
decreasing_by omega

theorem vb_small {n : Nat} (h : n < 128) : vb n = [(n : Int)] := by rw [vb, if_pos h]
theorem vb_big {n : Nat} (h : ¬ n < 128) : vb n = ((n % 128 + 128 : Nat) : Int) :: vb (n / 128) := by rw [vb, if_neg h]

def cellsOf (l : List Int) : List Value := l.map (Value.int .u8)

theorem cellsOf_one (l : List Int) : ∀ v ∈ cellsOf l, v.oneCell' = true := by
  intro v hv
  obtain ⟨x, _, rfl⟩ := List.mem_map.1 hv
  rfl
theorem cellsOf_snoc (l : List Int) (x : Int) : cellsOf l ++ [.int .u8 x] = cellsOf (l ++ [x]) := by simp [cellsOf]

theorem byte_low {n : Nat} (h : n ≤ 268435455) (hs : n < 128) : bits BinOp.and IntKind.i64 (n : Int) 127 % 256 = (n : Int) := by
  rw [i64_and127 n h]; omega
theorem byte_high {n : Nat} (h : n ≤ 268435455) : bits BinOp.or IntKind.u8 (bits BinOp.and IntKind.i64 (n : Int) 127 % 256) 128 = ((n % 128 + 128 : Nat) : Int) := by
  rw [i64_and127 n h]
  have e : (((n % 128 : Nat) : Int) % 256) = ((n % 128 : Nat) : Int) := by omega
  rw [e, u8_or_128 _ (by omega)]
theorem vb_len (n : Nat) (h : n ≤ 268435455) : (vb n).length ≤ 4 := by
  by_cases a : n < 128
  · rw [vb_small a]; simp
  rw [vb_big a]
  by_cases b : n / 128 < 128
  · rw [vb_small b]; simp
  rw [vb_big b]
  by_cases c : n / 128 / 128 < 128
  · rw [vb_small c]; simp
  rw [vb_big c, vb_small (by omega)]; simp
theorem vb_pos (n : Nat) : 0 < (vb n).length := by
  by_cases a : n < 128
  · rw [vb_small a]; simp
  rw [vb_big a]; simp

set_option maxHeartbeats 1000000 in
theorem WriteVarInt_any (B b : Nat) (n : Nat) (hn : n ≤ 268435455) (w : World) (h : LibA.IsBuffer 70 (fun _ => none) 5 B b 0 [] w) (hB : B ≤ w.heap.size) :
    Calls Tryd.prog 28 #[.pointer (some ⟨b, 0, none⟩), .int .i64 n] w fun e w' => e = .returned (.tuple #[]) ∧ LibA.IsBuffer 70 (fun _ => none) 5 B b 0 (cellsOf (vb n)) w' ∧ Below B w w' := by
  have HN : Hid (n ≤ 268435455) := hn
  have H0 : Hid (LibA.IsBuffer 70 (fun _ => none) 5 B b 0 [] w) := h
  clear h
  go_enter Tryd.func28, Tryd.ntmps28
  go_wp2_with fail
  go_loopg [1] n (fun gk v w' => ∃ done : List Int, v = .int .i64 gk ∧ gk ≤ 268435455 ∧ Hid (LibA.IsBuffer 70 (fun _ => none) 5 B b 0 (cellsOf done) w') ∧ Hid (Below B w w') ∧ Hid (done ++ vb gk = vb n) ∧ Hid (B ≤ w'.heap.size))
  case atStart => exact ⟨[], rfl, hn, H0, Below.refl _ _, rfl, hB⟩
  case round =>
    obtain ⟨done, rfl, hk, hb, hw, hd, hs⟩ := hrel
    have hl : Hid (done.length ≤ 4) := by
      have h1 := vb_len n HN.out
      rw [← hd.out, List.length_append] at h1
      exact (by omega : done.length ≤ 4)
    by_cases h1 : gk < 128
    · go_wp2_with fail
      refine (Tryd.Buffer_WriteByte_at 70 (fun _ => none) B b 0 (cellsOf done) _ wr hb.out hs.out (cellsOf_one _) (by have := hl.out; simp [cellsOf]; omega)).mono ?_
      rintro e w' ⟨rfl, i1, b1, _⟩
      rw [cellsOf_snoc, byte_low hk h1, ← vb_small h1, hd.out] at i1
      have I1 := Lib.hid i1; clear i1
      have B1 := Lib.hid b1; clear b1
      go_wp2_with fail
      go_end0
      exact ⟨rfl, I1, hw.out.trans B1.out⟩
    · go_wp2_with fail
      refine (Tryd.Buffer_WriteByte_at 70 (fun _ => none) B b 0 (cellsOf done) _ wr hb.out hs.out (cellsOf_one _) (by have := hl.out; simp [cellsOf]; omega)).mono ?_
      rintro e w' ⟨rfl, i1, b1, _⟩
      rw [cellsOf_snoc, byte_high hk] at i1
      have I1 := Lib.hid i1; clear i1
      have B1 := Lib.hid b1; clear b1
      go_wp2_with fail
      go_roundg (gk / 128)
      case measure => omega
      case rel => exact ⟨done ++ [((gk % 128 + 128 : Nat) : Int)], rfl, by omega, I1, hw.out.trans B1.out, by rw [List.append_assoc, List.singleton_append, ← vb_big h1]; exact hd.out, Nat.le_trans hs.out B1.out.size⟩

/-- (*bytes.Buffer).Bytes of an mqttWriter that has been written. -/
theorem Bytes_any (B b : Nat) (bs : List Value) (w : World) (h : LibA.IsBuffer 70 (fun _ => none) 5 B b 0 bs w) :
    Calls Tryd.prog 29 #[.pointer (some ⟨b, 0, none⟩)] w fun e w' => ∃ v, e = .returned v ∧ w'.ownsRow B 5 1 v bs.length bs ∧ ∃ n, w' = w.drewN n := by
  obtain ⟨hB, lr, hc⟩ := h.cases
  rcases hc with ⟨hnil, hbk⟩ | ⟨g, cap, cur, hbk, hBg, hg, hnc, hcm, hcs, htk, hgb⟩
  · subst hnil
    have c0 := hbk.c0
    have c1 := hbk.c1
    go_enter Tryd.func29, Tryd.ntmps29
    go_wp2
    go_quiet (fail)
    all_goals (go_wp2; go_ret; exact ⟨_, rfl, World.ownsRow_nil _ _ _ _, _, rfl⟩)
  · have c0 := hbk.c0
    have c1 := hbk.c1
    have hcm' := hcm
    unfold maxLen at hcm'
    go_enter Tryd.func29, Tryd.ntmps29
    go_wp2
    go_quiet (fail)
    all_goals (go_wp2; go_ret; exact ⟨_, rfl, ⟨by simp, .inr ⟨g, cap, cur, rfl, hBg, hg, hnc, hcm, by simpa using hcs, by simpa using htk⟩⟩, _, rfl⟩)
end Go.Proofs.YtpalhclllhbmkaaDoor
