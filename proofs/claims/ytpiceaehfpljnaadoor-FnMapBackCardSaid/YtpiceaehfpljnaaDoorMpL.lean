/- The walks of Atoi at digits. -/
import Derived.Test.YtpiceaehfpljnaaDoorMpD
import Derived.Lib.ConvBytes
import Derived.Lib.SmallJoins
namespace Go.Proofs.YtpiceaehfpljnaaDoor
open Go.RowKit Mp
attribute [local go_sem ↓] Go.wp_at_zero Go.wp_at_succ
set_option linter.unusedVariables false
set_option linter.unusedSimpArgs false
set_option maxRecDepth 1000000
set_option maxHeartbeats 8000000

/-- Digits alone. -/
def Digits (s : ByteArray) : Prop := ∀ k, k < s.size → 48 ≤ b8 s k ∧ b8 s k ≤ 57
/-- What the first k digits say. -/
def numT (s : ByteArray) : Nat → Nat
  | 0 => 0
  | k + 1 => numT s k * 10 + (b8 s k - 48)
def numOf (s : ByteArray) : Nat := numT s s.size
theorem numT_lt (s : ByteArray) (h : Digits s) (k : Nat) (hk : k ≤ s.size) : numT s k < 10 ^ k := by
  induction k with
  | zero => simp [numT]
  | succ k ih =>
    have := ih (by omega)
    have h2 := h k (by omega)
    rw [numT, Nat.pow_succ]
    omega
theorem conv945 (w : World) (s : ByteArray) : (convert 9 45 (.string s)).run Tryd.prog w = .ok (.slice (some ⟨w.heap.size, 0, none⟩) s.size (grownCap w s.size 0 5)) (Lib.bytesWorld w 5 s) :=
  Lib.run_convert_string_bytes w 9 45 5 s Tryd.underlying9 Tryd.underlying45 Tryd.underlying5
theorem bw_cell (w : World) (s : ByteArray) (k : Nat) (h : k < s.size) : (Lib.bytesWorld w 5 s).cell? ⟨w.heap.size, k, none⟩ = some (.int .u8 (b8 s k : Nat)) := by
  rw [Lib.bytesWorld_cell w 5 s k h, get_b8 s k h]
  simp [List.getD, h]

theorem pu_any (s : ByteArray) (hd : Digits s) (h0 : 0 < s.size) (h9 : s.size ≤ 9) (w : World) :
    Calls Tryd.prog 82 #[.string s, .int .i64 10, .int .i64 0] w fun e w' => e = .returned (.tuple #[.int .u64 (numOf s : Nat), .nilIface]) ∧ Below w.heap.size w w' := by
  have f2 : (s.toList == []) = false := by rw [tst]; exact decide_eq_false (fun e => by rw [e] at h0; simp [strOf, ByteArray.size] at h0)
  have HD := Lib.hid hd
  have hc := conv945 w s
  have HB : Hid (Below w.heap.size w (Lib.bytesWorld w 5 s)) := Lib.hid (Joins.below_bytesWorld w.heap.size w 5 s (Nat.le_refl _))
  have HC : Hid (∀ k, k < s.size → (Lib.bytesWorld w 5 s).cell? ⟨w.heap.size, k, none⟩ = some (.int .u8 (b8 s k : Nat))) := Lib.hid (bw_cell w s)
  generalize Lib.bytesWorld w 5 s = w1 at hc HB HC
  have m1 : IntKind.u64.wrap 18446744073709551616 = 0 := by decide
  have m2 : IntKind.u64.wrap (-1) = 18446744073709551615 := by decide
  have m3 : IntKind.u64.wrap (0 - 1) = 18446744073709551615 := by decide
  clear hd
  go_enter Tryd.func82, Tryd.ntmps82
  go_wp2_with fail
  go_loopg [11, 12, 88] s.size (fun gk v11 v12 v88 w' => ∃ k n : Nat, v11 = .int .u64 n ∧ v12 = .bool false ∧ v88 = .int .i64 k ∧ gk + k = s.size ∧ n < 1000000000 ∧ w' = w1 ∧ Hid (n = numT s k))
  case atStart => exact ⟨0, 0, rfl, rfl, rfl, rfl, by omega, rfl, Lib.hid rfl⟩
  case round =>
    obtain ⟨k, n, rfl, rfl, rfl, hgk, hn, rfl, hN⟩ := hrel
    by_cases hlt : k < s.size
    · have d1 : decide ((k : Int) < (s.size : Int)) = true := decide_eq_true (by omega)
      have d2 : decide (k < s.size) = true := decide_eq_true hlt
      have c0 := HC.out k hlt
      obtain ⟨a1, a2⟩ := HD.out k hlt
      obtain ⟨d, hd⟩ : ∃ d, b8 s k = 48 + d := ⟨b8 s k - 48, by omega⟩
      have hd9 : d ≤ 9 := by omega
      rw [hd] at c0
      have hN2 : Hid (n * 10 + d = numT s (k + 1)) := Lib.hid (by rw [numT, ← hN.out, hd]; omega)
      have hlt2 : n * 10 + d < 1000000000 := by
        have h1 := numT_lt s HD.out (k + 1) (by omega)
        rw [← hN2.out] at h1
        have h2 : 10 ^ (k + 1) ≤ 10 ^ 9 := Nat.pow_le_pow_right (by omega) (by omega)
        omega
      clear a1 a2 hd hN
      go_wp2_with fail
      go_roundg (gk - 1)
      case measure => omega
      case rel => exact ⟨k + 1, n * 10 + d, by congr 1; omega, rfl, by simp, by omega, hlt2, rfl, hN2⟩
    · have d1 : decide ((k : Int) < (s.size : Int)) = false := decide_eq_false (by omega)
      have d2 : decide (k < s.size) = false := decide_eq_false (by omega)
      obtain rfl : k = s.size := by omega
      go_wp2_with fail
      go_ret2
      exact ⟨by rw [hN.out]; rfl, HB.out⟩

theorem numOf_lt (s : ByteArray) (h : Digits s) (h9 : s.size ≤ 9) : numOf s < 1000000000 := by
  have h1 := numT_lt s h s.size (Nat.le_refl _)
  have h2 : 10 ^ s.size ≤ 10 ^ 9 := Nat.pow_le_pow_right (by omega) (by omega)
  unfold numOf
  omega
theorem pi_any (s : ByteArray) (hd : Digits s) (h0 : 0 < s.size) (h9 : s.size ≤ 9) (w : World) :
    Calls Tryd.prog 72 #[.string s, .int .i64 10, .int .i64 0] w fun e w' => e = .returned (.tuple #[.int .i64 (numOf s : Nat), .nilIface]) ∧ Below w.heap.size w w' := by
  have f2 : (s.toList == []) = false := by rw [tst]; exact decide_eq_false (fun e => by rw [e] at h0; simp [strOf, ByteArray.size] at h0)
  have hf := hd 0 h0
  rw [b8_get s 0 h0] at hf
  have g1 : (((s[0]'h0).toNat : Int) == 45) = false := beq_eq_false_iff_ne.2 (by omega)
  have g2 : (((s[0]'h0).toNat : Int) == 43) = false := beq_eq_false_iff_ne.2 (by omega)
  have hn := numOf_lt s hd h9
  have HD := Lib.hid hd
  clear hd hf
  go_enter Tryd.func72, Tryd.ntmps72
  go_wp2_with fail
  refine (pu_any s HD.out h0 h9 w).mono ?_
  rintro e w1 ⟨rfl, hb⟩
  have HB := Lib.hid hb
  clear hb
  have m1 : IntKind.u64.wrap 9223372036854775808 = 9223372036854775808 := by decide
  have m2 : IntKind.i64.wrap (numOf s : Int) = (numOf s : Int) := IntWalk.i64_in _ ⟨by omega, by omega⟩
  have m3 : decide ((9223372036854775808 : Int) ≤ (numOf s : Int)) = false := decide_eq_false (by omega)
  have m4 : decide (9223372036854775808 ≤ numOf s) = false := decide_eq_false (by omega)
  have m5 : decide ((9223372036854775808 : Int) < (numOf s : Int)) = false := decide_eq_false (by omega)
  have m6 : decide (9223372036854775808 < numOf s) = false := decide_eq_false (by omega)
  have HNN := Lib.hid hn
  clear hn
  go_wp2_with fail
  go_ret2
  exact ⟨rfl, HB.out⟩
theorem atoi_any (s : ByteArray) (hd : Digits s) (h0 : 0 < s.size) (h9 : s.size ≤ 9) (w : World) :
    Calls Tryd.prog 60 #[.string s] w fun e w' => e = .returned (.tuple #[.int .i64 (numOf s : Nat), .nilIface]) ∧ Below w.heap.size w w' := by
  have HD := Lib.hid hd
  clear hd
  go_enter Tryd.func60, Tryd.ntmps60
  go_wp2_with fail
  refine (pi_any s HD.out h0 h9 w).mono ?_
  rintro e w1 ⟨rfl, hb⟩
  have HB := Lib.hid hb
  clear hb
  go_wp2_with fail
  go_ret2
  exact ⟨rfl, HB.out⟩
end Go.Proofs.YtpiceaehfpljnaaDoor
