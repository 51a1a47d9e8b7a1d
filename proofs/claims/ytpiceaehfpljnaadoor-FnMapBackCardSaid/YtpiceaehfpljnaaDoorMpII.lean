/- The walks of Decimal and mapSource. -/
import Derived.Test.YtpiceaehfpljnaaDoorMpHH
import Derived.Laws.IdiomStrings
namespace Go.Proofs.YtpiceaehfpljnaaDoor
open Go.RowKit Mp
attribute [local go_sem ↓] Go.wp_at_zero Go.wp_at_succ
set_option linter.unusedVariables false
set_option linter.unusedSimpArgs false
set_option maxRecDepth 1000000
set_option maxHeartbeats 8000000

/-- A number's digits. -/
def dig (v : Nat) : List UInt8 := if h : v ≤ 9 then [UInt8.ofNat (48 + v)] else dig (v / 10) ++ [UInt8.ofNat (48 + v % 10)]
termination_by v
decreasing_by omega
theorem dig_small {v : Nat} (h : v ≤ 9) : dig v = [UInt8.ofNat (48 + v)] := by rw [dig, dif_pos h]
theorem dig_big {v : Nat} (h : ¬ v ≤ 9) : dig v = dig (v / 10) ++ [UInt8.ofNat (48 + v % 10)] := by rw [dig, dif_neg h]
theorem u8_of (n : Nat) (h : n < 256) : (UInt8.ofNat n).toNat = n := by simp [UInt8.toNat_ofNat']; omega
theorem dig_ok (v : Nat) : ∀ c ∈ dig v, 48 ≤ c.toNat ∧ c.toNat ≤ 57 := by
  induction v using Nat.strongRecOn with
  | _ v ih =>
    by_cases h : v ≤ 9
    · rw [dig_small h]
      intro c hc
      obtain rfl := List.mem_singleton.1 hc
      rw [u8_of _ (by omega)]
      omega
    · rw [dig_big h]
      intro c hc
      rcases List.mem_append.1 hc with hc | hc
      · exact ih (v / 10) (by omega) c hc
      · obtain rfl := List.mem_singleton.1 hc
        rw [u8_of _ (by omega)]
        omega
theorem dig_len (k v : Nat) (h : v < 10 ^ (k + 1)) : 0 < (dig v).length ∧ (dig v).length ≤ k + 1 := by
  induction k generalizing v with
  | zero =>
    rw [dig_small (by omega)]
    simp
  | succ k ih =>
    by_cases h9 : v ≤ 9
    · rw [dig_small h9]; simp
    · rw [dig_big h9]
      have := ih (v / 10) (by rw [Nat.pow_succ] at h; omega)
      simp only [List.length_append, List.length_singleton]
      omega
theorem conv1 (r : Nat) (hr : r ≤ 9) (W : World) : (convert 45 9 (.slice (some ⟨W.heap.size, 0, none⟩) 1 1)).run Tryd.prog (W.alloc (.cells #[.int .u8 (48 + (r : Int))] 5)) = .ok (.string ⟨#[UInt8.ofNat (48 + r)]⟩) (W.alloc (.cells #[.int .u8 (48 + (r : Int))] 5)) := by
  refine run_convert_bytes_back _ 45 9 5 ⟨W.heap.size, 0, none⟩ 1 [UInt8.ofNat (48 + r)] rfl rfl rfl (fun j hj => ?_)
  match j, hj with
  | 0, _ =>
    show (W.alloc _).cell? ⟨W.heap.size, 0, none⟩ = _
    rw [Lib.cell_of_heap (heap_alloc_last W _)]
    show some (Value.int .u8 (48 + (r : Int))) = some (Value.int .u8 ((UInt8.ofNat (48 + r)).toNat : Int))
    rw [u8_of _ (by omega), Int.natCast_add]
    rfl
  | j + 1, hj => exact absurd hj (by simp)
theorem dec_any (v : Nat) (hv : v < 100000) (w : World) : Calls Tryd.prog 10 #[.int .i64 (v : Nat)] w fun e w' => e = .returned (.string (strOf (dig v))) ∧ Below w.heap.size w w' := by
  go_enter Tryd.func10, Tryd.ntmps10
  go_wp2_with fail
  go_loopg [0, 3] v (fun gk v0 v3 w' => ∃ (x : Nat) (y : List UInt8), v0 = .int .i64 (x : Nat) ∧ v3 = .string (strOf y) ∧ gk = x ∧ x ≤ v ∧ Hid (dig v = dig x ++ y) ∧ x + y.length ≤ v ∧ Hid (Below w.heap.size w w'))
  case atStart => exact ⟨v, [], rfl, rfl, rfl, Nat.le_refl _, Lib.hid (by simp), by simp, Lib.hid (Below.refl _ _)⟩
  case round =>
    obtain ⟨x, y, rfl, rfl, hgk, hx, hD, hy, hB⟩ := hrel
    by_cases h9 : x ≤ 9
    · have d1 : decide ((9 : Int) < (x : Int)) = false := decide_eq_false (by omega)
      have d2 : decide (9 < x) = false := decide_eq_false (by omega)
      have hcv := conv1 x h9
      have hsz := strOf_size y
      obtain ⟨d, hd⟩ : ∃ d : ByteArray, d = ⟨#[UInt8.ofNat (48 + x)]⟩ := ⟨_, rfl⟩
      have hds : d.size = 1 := by rw [hd]; rfl
      rw [← hd] at hcv
      have hd2 : d ++ strOf y = strOf (dig v) := by rw [hD.out, dig_small h9, hd]; rfl
      obtain ⟨Y, hY⟩ : ∃ Y, Y = strOf y := ⟨_, rfl⟩
      rw [← hY] at hsz hd2 ⊢
      have b0 : d.size + Y.size ≤ 9223372036854775807 := by omega
      have b1 := eq_true b0
      have b2 : decide (d.size + Y.size ≤ 9223372036854775807) = true := decide_eq_true b0
      have b3 : (9223372036854775807 < d.size + Y.size) = False := eq_false (Nat.not_lt.2 b0)
      have HD2 := Lib.hid hd2
      have HB2 : Hid (∀ o, Below w.heap.size w (wr.alloc o)) := Lib.hid (fun o => hB.out.alloc hB.out.size o)
      clear hd hd2 hds hY hsz hD
      go_wp2_with fail
      go_ret
      exact ⟨by rw [HD2.out]; rfl, HB2.out _⟩
    · have d1 : decide ((9 : Int) < (x : Int)) = true := decide_eq_true (by omega)
      have d2 : decide (9 < x) = true := decide_eq_true (by omega)
      have hcv : ∀ W : World, (convert 45 9 (.slice (some ⟨W.heap.size, 0, none⟩) 1 1)).run Tryd.prog (W.alloc (.cells #[.int .u8 (48 + (x : Int) % 10)] 5)) = .ok (.string ⟨#[UInt8.ofNat (48 + x % 10)]⟩) (W.alloc (.cells #[.int .u8 (48 + (x : Int) % 10)] 5)) := fun W => conv1 (x % 10) (by omega) W
      have hsz := strOf_size y
      obtain ⟨d, hd⟩ : ∃ d : ByteArray, d = ⟨#[UInt8.ofNat (48 + x % 10)]⟩ := ⟨_, rfl⟩
      have hds : d.size = 1 := by rw [hd]; rfl
      rw [← hd] at hcv
      have hd2 : d ++ strOf y = strOf (UInt8.ofNat (48 + x % 10) :: y) := by rw [hd]; rfl
      obtain ⟨Y, hY⟩ : ∃ Y, Y = strOf y := ⟨_, rfl⟩
      rw [← hY] at hsz hd2 ⊢
      have b0 : d.size + Y.size ≤ 9223372036854775807 := by omega
      have b1 := eq_true b0
      have b2 : decide (d.size + Y.size ≤ 9223372036854775807) = true := decide_eq_true b0
      have b3 : (9223372036854775807 < d.size + Y.size) = False := eq_false (Nat.not_lt.2 b0)
      have HD2 := Lib.hid hd2
      have HB2 : Hid (∀ o, Below w.heap.size w (wr.alloc o)) := Lib.hid (fun o => hB.out.alloc hB.out.size o)
      have HR : Hid (dig v = dig (x / 10) ++ (UInt8.ofNat (48 + x % 10) :: y)) := Lib.hid (by rw [hD.out, dig_big h9]; simp)
      clear hd hd2 hds hY hsz hD
      go_wp2_with fail
      go_roundg (x / 10)
      case measure => omega
      case rel => exact ⟨x / 10, UInt8.ofNat (48 + x % 10) :: y, by first | rfl | simp, by rw [HD2.out], rfl, by omega, HR, by simp; omega, Lib.hid (HB2.out _)⟩
end Go.Proofs.YtpiceaehfpljnaaDoor
